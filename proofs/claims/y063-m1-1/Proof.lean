import JvmDerived
import JvmDerived.Pilot.@@N@@Statement
import JvmDerived.Pilot.@@N@@Code
set_option linter.unusedVariables false
set_option linter.unusedSimpArgs false
namespace Jvm.RoadKit
open Sem ClassFile Op Lib Jvm.Stand Jvm.Free Jvm.LawKit
section New
variable {p : Program} {l : Launch} {e : Env} {R : Room} {s : State} {m : MethodId} {args : Array Value} {below : List Frame} {meth : Method} {c : Code} {T : State} {locs : List Loc} {cells slots : Nat}
theorem retI (X : Stand p l e R s m args below meth c T locs cells slots) (hx : p.tables.exec = Jvm.exec) {pc : Nat} {Ls : Array Slot} {z : Int32} {rest : List Value} (hret : meth.sig.returnType = some .int) (hd : decode c.code pc = .ok (.ireturn, 1)) {fs : List Frame}
    (hl : ∀ (f : JFrame) (acts : List Action), f.method = m → f.locked = none → f.entered = [] → (doReturn e (T.setTop f) acts (some (.int z))).1 = T.setFrames fs) : Steps p.tables e below (T.setTop (mkF m pc Ls (.int z :: rest))) (T.setFrames fs) :=
  retOut X hx hret rfl (Or.inl ⟨rfl, Or.inl rfl, _, rfl⟩) hd hl
end New
end Jvm.RoadKit
namespace Jvm.Pilot.@@N@@
open Jvm Jvm.ClassFile Sem Op Lib Jvm.Free Jvm.Stand Jvm.LawKit Jvm.RoadKit Bundle Jvm.Pilot.@@N@@.Jvm.D
theorem own_bit (k i : Nat) (hk : k < 64) (hi : i < 64) : (1#64 <<< k).getLsbD i = decide (i = k) := by
  rw [BitVec.getLsbD_shiftLeft, BitVec.getLsbD_one]
  by_cases h : i = k
  · subst h; simp [hi]
  · simp [h, hi]; omega
theorem own_A (W : BitVec 64) (k : Nat) (hk : k < 64) : ((W >>> k) &&& 1#64 = 0#64) ↔ W.getLsbD k = false := by
  constructor
  · intro h
    have q := congrArg (fun v : BitVec 64 => v.getLsbD 0) h
    simpa using q
  · intro h
    apply BitVec.eq_of_getLsbD_eq
    intro i hi
    by_cases z : i = 0
    · subst z; simp [h]
    · simp [BitVec.getLsbD_one, z]
theorem own_or (W : BitVec 64) (k : Nat) (hk : k < 64) (i : Nat) (hi : i < 64) : (W ||| (1#64 <<< k)).getLsbD i = (W.getLsbD i || decide (i = k)) := by
  rw [BitVec.getLsbD_or, own_bit k i hk hi]
theorem own_B (W : BitVec 64) (k : Nat) (hk : k < 64) : (W ||| (1#64 <<< k) = W) ↔ W.getLsbD k = true := by
  constructor
  · intro h
    have q := congrArg (fun v : BitVec 64 => v.getLsbD k) h
    simp only [own_or W k hk k hk] at q
    simpa using q.symm
  · intro h
    apply BitVec.eq_of_getLsbD_eq
    intro i hi
    rw [own_or W k hk i hi]
    by_cases z : i = k
    · subst z; simp [h]
    · simp [z]
theorem own_and (W : BitVec 64) (k : Nat) (hk : k < 64) (h : W.getLsbD k = true) : ¬ (W &&& (1#64 <<< k) = 0#64) := by
  intro q
  have r := congrArg (fun v : BitVec 64 => v.getLsbD k) q
  simp only [BitVec.getLsbD_and, own_bit k k hk hk, h] at r
  simp at r
theorem own_D (W : BitVec 64) (k : Nat) (hk : k < 64) (h : W.getLsbD k = false) : W ||| (1#64 <<< k) = W + (1#64 <<< k) := by
  symm
  apply BitVec.add_eq_or_of_and_eq_zero
  apply BitVec.eq_of_getLsbD_eq
  intro i hi
  rw [BitVec.getLsbD_and, own_bit k i hk hi]
  by_cases z : i = k
  · subst z; simp [h]
  · simp [z]
theorem own_shl {b : Int64} {k : Nat} (hk : k < 64) (hb : b = Int64.ofNat k) : ((1 : Int64) <<< b).toBitVec = 1#64 <<< k := by
  subst hb
  have t : ∀ j : Fin 64, ((1 : Int64) <<< Int64.ofNat j.val).toBitVec = 1#64 <<< j.val := by decide +kernel
  exact t ⟨k, hk⟩
theorem own_ushr (w : Int64) {y : Int32} {k : Nat} (hk : k < 64) (hy : y = Int32.ofNat k) : (XT.ushrL w y).toBitVec = w.toBitVec >>> k := by
  subst hy
  have t : ∀ j : Fin 64, (((Int32.ofNat j.val).toInt64.toUInt64 &&& Int64.toUInt64 63).toBitVec % 64#64).toNat = j.val := by decide +kernel
  have q := t ⟨k, hk⟩
  show w.toBitVec >>> (((Int32.ofNat k).toInt64.toUInt64 &&& Int64.toUInt64 63).toBitVec % 64#64) = _
  rw [BitVec.ushiftRight_eq', q]
theorem own_ofNat32 {z : Int32} {k : Nat} (h : z.toInt = k) (hk : k < 64) : z = Int32.ofNat k := by
  apply Int32.toInt_inj.mp
  rw [h]
  have t : ∀ j : Fin 64, (Int32.ofNat j.val).toInt = j.val := by decide +kernel
  exact (t ⟨k, hk⟩).symm
theorem own_ofNat64 {z : Int64} {k : Nat} (h : z.toInt = k) (hk : k < 64) : z = Int64.ofNat k := by
  apply Int64.toInt_inj.mp
  rw [h]
  have t : ∀ j : Fin 64, (Int64.ofNat j.val).toInt = j.val := by decide +kernel
  exact (t ⟨k, hk⟩).symm
theorem own_xor {z : Int32} (h0 : 0 ≤ z.toInt) (h1 : z.toInt < 1024) : 0 ≤ (z ^^^ (1 : Int32)).toInt ∧ (z ^^^ (1 : Int32)).toInt < 1024 ∧ ¬ (z ^^^ (1 : Int32)).toInt = z.toInt ∧ (z.toInt < 512 ↔ (z ^^^ (1 : Int32)).toInt < 512) := by
  have t : ∀ j : Fin 1024, 0 ≤ (Int32.ofNat j.val ^^^ (1 : Int32)).toInt ∧ (Int32.ofNat j.val ^^^ (1 : Int32)).toInt < 1024 ∧ ¬ (Int32.ofNat j.val ^^^ (1 : Int32)).toInt = (Int32.ofNat j.val).toInt ∧ ((Int32.ofNat j.val).toInt < 512 ↔ (Int32.ofNat j.val ^^^ (1 : Int32)).toInt < 512) := by decide +kernel
  have e : z = Int32.ofNat z.toInt.toNat := by
    apply Int32.toInt_inj.mp
    rw [Int32.toInt_ofNat_of_lt (by omega)]
    omega
  rw [e]
  exact t ⟨z.toInt.toNat, by omega⟩
theorem own_bits (w sh : Int64) (sh2 : Int32) (b : Int64) {k : Nat} (hk : k < 64) (h1 : sh = Int64.ofNat k) (h2 : sh2 = Int32.ofNat k) (hb : b = (1 : Int64) <<< sh) :
    (((XT.ushrL w sh2) &&& (1 : Int64)) = 0 → ¬ ((w ||| b) = w) ∧ (w ||| b) = w + b) ∧ (¬ ((XT.ushrL w sh2) &&& (1 : Int64)) = 0 → (w ||| b) = w ∧ ¬ ((w &&& b) = 0)) ∧ ¬ (((w ||| b) &&& b) = 0) := by
  have eb : b.toBitVec = 1#64 <<< k := by rw [hb]; exact own_shl hk h1
  have eu := own_ushr w hk h2
  have c0 : (((XT.ushrL w sh2) &&& (1 : Int64)) = 0) ↔ w.toBitVec.getLsbD k = false := by
    rw [← own_A w.toBitVec k hk, ← Int64.toBitVec_inj, Int64.toBitVec_and, eu]; rfl
  have c1 : ((w ||| b) = w) ↔ w.toBitVec.getLsbD k = true := by
    rw [← own_B w.toBitVec k hk, ← Int64.toBitVec_inj, Int64.toBitVec_or, eb]
  refine ⟨fun h => ?_, fun h => ?_, fun h => ?_⟩
  · have q := c0.mp h
    refine ⟨fun r => ?_, ?_⟩
    · rw [c1.mp r] at q; cases q
    · rw [← Int64.toBitVec_inj, Int64.toBitVec_or, Int64.toBitVec_add, eb]; exact own_D _ k hk q
  · have q : w.toBitVec.getLsbD k = true := by
      cases hq : w.toBitVec.getLsbD k with
      | true => rfl
      | false => exact absurd (c0.mpr hq) h
    refine ⟨c1.mpr q, fun r => ?_⟩
    rw [← Int64.toBitVec_inj, Int64.toBitVec_and, eb] at r
    exact own_and _ k hk q r
  · rw [← Int64.toBitVec_inj, Int64.toBitVec_and, Int64.toBitVec_or, eb] at h
    refine own_and _ k hk ?_ h
    rw [own_or _ k hk k hk]; simp
theorem own_nf {args : Array Value} {s : State} {C : String} {x y y' : MethodName} (hsel : (Cond.selects C x y).before args s = true) (hc : y'.cls = y.cls) : NotFace s y' := fun r0 h0 => by
  obtain ⟨c2, r2, m2, q1, q2, q3, q4, kP, hkP, hkPi⟩ := Cond.selects_spec hsel
  have a := findClass_of_methodNamed h0
  have b := findClass_of_methodNamed q3
  rw [hc, b] at a
  have e := Option.some.inj a
  exact ⟨kP, by rw [← e]; exact hkP, hkPi⟩
/-- an array of 1024 longs, by what each place holds -/
def LA (Z : State) (h : Heap) (a : Addr) (f : Nat → Int64) : Prop := ∃ c : Cell, Arr Z h a c .long ∧ c.slots.size = 1024 ∧ ∀ j, j < 1024 → c.slots[j]? = some (.long (f j))
section LAs
variable {Z : State} {h h' : Heap} {a b : Addr} {f : Nat → Int64} {sl : Nat} {v : Value} {ws : List Addr}
theorem LA.lt (F : LA Z h a f) : a < h.size := by obtain ⟨c, A, -⟩ := F; exact A.lt
theorem LA.ext (F : LA Z h a f) (E : Ext h h') : LA Z h' a f := by obtain ⟨c, A, r⟩ := F; exact ⟨c, A.ext E, r⟩
theorem LA.other (F : LA Z h b f) (W : Wr h h' a sl v) (q : b ≠ a) : LA Z h' b f := by obtain ⟨c, A, r⟩ := F; exact ⟨c, A.other W q, r⟩
theorem LA.keep (F : LA Z h a f) (K : Keep h h' ws) (q : a ∉ ws) : LA Z h' a f := by obtain ⟨c, A, r⟩ := F; exact ⟨c, ⟨K.2.1 a c A.1 q, A.2⟩, r⟩
theorem LA.set {j : Nat} {x : Int64} (F : LA Z h a f) (W : Wr h h' a j (.long x)) : LA Z h' a (fun k => if k = j then x else f k) := by
  obtain ⟨c, A, s1, s2⟩ := F
  obtain ⟨c', e1, e2, e3, e4, e5, e6, e7⟩ := wr_at W A.1
  refine ⟨c.setSlot j (.long x), Arr.same W A, by rw [sz_set]; exact s1, fun k hk => ?_⟩
  by_cases q : k = j
  · subst q
    show _ = some (Value.long (if k = k then x else f k))
    rw [if_pos rfl, ← (e7 rfl).1]; exact (e7 rfl).2.1
  · show _ = some (Value.long (if k = j then x else f k))
    rw [if_neg q, ← (e7 rfl).1, e6 k q]; exact s2 k hk
theorem LA.new {k : ClassId} {z : Int32} (A : Arr Z h a (newA k .long z) .long) (hz : z.toNatClampNeg = 1024) : LA Z h a (fun _ => 0) :=
  ⟨_, A, by rw [sz_new]; exact hz, fun j hj => by simp [newA, hz, hj, defaultValue]⟩
end LAs
theorem own_in {c : Cell} {j : Int32} (hs : c.slots.size = 1024) (h0 : 0 ≤ j.toInt) (h1 : j.toInt < 1024) : ¬ (j < 0 ∨ c.slots.size ≤ j.toNatClampNeg) := by
  have z0 : (0 : Int32).toInt = 0 := rfl
  have q : ¬ j < 0 := by rw [Int32.lt_iff_toInt_lt, z0]; omega
  have e := nat_of q
  rintro (r | r)
  · exact q r
  · omega
theorem own_nat {j : Int32} (h0 : 0 ≤ j.toInt) : (j.toNatClampNeg : Int) = j.toInt := by
  have z0 : (0 : Int32).toInt = 0 := rfl
  exact (nat_of (by rw [Int32.lt_iff_toInt_lt, z0]; omega)).symm
theorem d2_0 : decode prog_7_method_25_code 0 = .ok (.ldc2_w 31, 3) := by decide +kernel
theorem d2_3 : decode prog_7_method_25_code 3 = .ok (.lstore_n 3, 1) := by decide +kernel
theorem d2_4 : decode prog_7_method_25_code 4 = .ok (.iload_n 0, 1) := by decide +kernel
theorem d2_5 : decode prog_7_method_25_code 5 = .ok (.iload_n 1, 1) := by decide +kernel
theorem d2_6 : decode prog_7_method_25_code 6 = .ok (.bipush 6, 2) := by decide +kernel
theorem d2_8 : decode prog_7_method_25_code 8 = .ok (.iushr, 1) := by decide +kernel
theorem d2_9 : decode prog_7_method_25_code 9 = .ok (.if_icmp .ne 11, 3) := by decide +kernel
theorem d2_12 : decode prog_7_method_25_code 12 = .ok (.lload_n 3, 1) := by decide +kernel
theorem d2_13 : decode prog_7_method_25_code 13 = .ok (.ldc2_w 31, 3) := by decide +kernel
theorem d2_16 : decode prog_7_method_25_code 16 = .ok (.iload_n 1, 1) := by decide +kernel
theorem d2_17 : decode prog_7_method_25_code 17 = .ok (.lshl, 1) := by decide +kernel
theorem d2_18 : decode prog_7_method_25_code 18 = .ok (.land, 1) := by decide +kernel
theorem d2_19 : decode prog_7_method_25_code 19 = .ok (.lstore_n 3, 1) := by decide +kernel
theorem d2_20 : decode prog_7_method_25_code 20 = .ok (.iload_n 0, 1) := by decide +kernel
theorem d2_21 : decode prog_7_method_25_code 21 = .ok (.iload_n 2, 1) := by decide +kernel
theorem d2_22 : decode prog_7_method_25_code 22 = .ok (.iconst 1, 1) := by decide +kernel
theorem d2_23 : decode prog_7_method_25_code 23 = .ok (.isub, 1) := by decide +kernel
theorem d2_24 : decode prog_7_method_25_code 24 = .ok (.bipush 6, 2) := by decide +kernel
theorem d2_26 : decode prog_7_method_25_code 26 = .ok (.iushr, 1) := by decide +kernel
theorem d2_27 : decode prog_7_method_25_code 27 = .ok (.if_icmp .ne 12, 3) := by decide +kernel
theorem d2_30 : decode prog_7_method_25_code 30 = .ok (.lload_n 3, 1) := by decide +kernel
theorem d2_31 : decode prog_7_method_25_code 31 = .ok (.ldc2_w 31, 3) := by decide +kernel
theorem d2_34 : decode prog_7_method_25_code 34 = .ok (.iload_n 2, 1) := by decide +kernel
theorem d2_35 : decode prog_7_method_25_code 35 = .ok (.ineg, 1) := by decide +kernel
theorem d2_36 : decode prog_7_method_25_code 36 = .ok (.lushr, 1) := by decide +kernel
theorem d2_37 : decode prog_7_method_25_code 37 = .ok (.land, 1) := by decide +kernel
theorem d2_38 : decode prog_7_method_25_code 38 = .ok (.lstore_n 3, 1) := by decide +kernel
theorem d2_39 : decode prog_7_method_25_code 39 = .ok (.lload_n 3, 1) := by decide +kernel
theorem d2_40 : decode prog_7_method_25_code 40 = .ok (.lreturn, 1) := by decide +kernel
theorem pn_0 : plainName "com/example/bitgrove/bitgrove/BitmapContainer" = true := by first | (simp [plainName, overriddenIn]; done) | decide +kernel
theorem ef_rm2 (m : MethodId) (x0 : Int32) (x1 : Int32) (x2 : Int32) : entryFrame m #[(.int x0), (.int x1), (.int x2)] 5 = mkF m 0 #[.val (.int x0), .val (.int x1), .val (.int x2), .unset, .unset] [] := by first | (simp [entryFrame, mkF, argsToLocals, Value.category]; done) | rfl
def Q2 (Z : State) (pw : Int32) (pb : Int32) (pe : Int32) (h0 : Heap) (n0 : Nat) (v : Option Value) (h : Heap) (L : List Loc) : Prop := ∃ z : Int64, v = some (.long z) ∧ Fr n0 L ∧ h = h0
set_option maxRecDepth 65536 in
set_option maxHeartbeats 40000000 in
theorem rm2 (l : Launch) (Z : State) (a0 : Array Value) (hw : ∀ d ∈ tables_1, d.before a0 Z = true) (ws : List Jvm.Cond) (pw : Int32) (pb : Int32) (pe : Int32) (h0 : Heap) (n0 : Nat) (Z0 : n0 ≤ h0.size) :
    MetFree l (⟨"com/example/bitgrove/bitgrove/BitmapContainer", "rangeMask", "(III)J"⟩ : MethodName) (head1 (Jvm.Cond.code (⟨"com/example/bitgrove/bitgrove/BitmapContainer", "rangeMask", "(III)J"⟩ : MethodName) prog_7_method_25_code 5 (some .long) :: ws) ({ frames := 0, cells := 0, slots := 0, locals := 0 } : Room)) (fun a U => a = #[(.int pw), (.int pb), (.int pe)] ∧ Z.Warmed39 U.vm ∧ U.heap = h0) (fun _ _ _ _ _ => True) (fun _ U o U' => ∃ v L, o = .returned v ∧ Q2 Z pw pb pe h0 n0 v U'.heap L ∧ FrameEnd U o U' L ({ frames := 0, cells := 0, slots := 0, locals := 0 } : Room).cells ({ frames := 0, cells := 0, slots := 0, locals := 0 } : Room).slots) := by
  refine MetFree.of_bodySF (plainFor_of_name pn_0) hisR ?_
  intro p e s m args below meth c s₁ Bd hml0 hP hK
  obtain ⟨rfl, hZ, hh⟩ := hP
  have hx := Bd.exec
  have hby := Bd.bytes
  have hml : c.maxLocals = 5 := hml0
  have hown : s.vm.findClass "com/example/bitgrove/bitgrove/BitmapContainer" = some m.cls := findClass_of_methodNamed Bd.named
  have hnm := (name_of_methodNamed Bd.named Bd.method).1
  have X0 : Stand p l e ({ frames := 0, cells := 0, slots := 0, locals := 0 } : Room) s m #[(.int pw), (.int pb), (.int pe)] below meth c s₁ [] 0 0 := Stand.of_body Bd
  have e0 : s₁.heap = h0 := by rw [← hh, Bd.state]; rfl
  have N0 := Fr.nil n0
  have pre0 : ∀ t, Steps p.tables e below (s₁.setTop (mkF m 0 #[.val (.int pw), .val (.int pb), .val (.int pe), .unset, .unset] [])) t → Steps p.tables e below (s₁.setTop (entryFrame m #[(.int pw), (.int pb), (.int pe)] 5)) t := fun t k => castTop (ef_rm2 m pw pb pe) k
  have pre1 : ∀ tq, Steps p.tables e below (s₁.setTop (mkF m 9 #[.val (.int pw), .val (.int pb), .val (.int pe), .val (.long (-1 : Int64)), .second] [(.int ((pb.toUInt32 >>> ((6 : Int32) &&& 31).toUInt32).toInt32)), (.int pw)])) tq → Steps p.tables e below (s₁.setTop (entryFrame m #[(.int pw), (.int pb), (.int pe)] 5)) tq := by
    intro tq kt
    refine pre0 tq ?_
    show Steps p.tables e below (s₁.setTop (mkF m 0 #[.val (.int pw), .val (.int pb), .val (.int pe), .unset, .unset] [])) _
    refine X0.ldc2Long hx hown (mvT hZ (hw _ (List.mem_of_getElem? (i := 9) rfl))) (g := (mkF m 0 #[.val (.int pw), .val (.int pb), .val (.int pe), .unset, .unset] [])) rfl (hb hby d2_0) _ ?_
    show Steps p.tables e below (s₁.setTop (mkF m 3 #[.val (.int pw), .val (.int pb), .val (.int pe), .unset, .unset] [(.long (-1 : Int64))])) _
    refine XS.lstoreN X0.here hx rfl (hb hby d2_3) rfl (l' := #[.val (.int pw), .val (.int pb), .val (.int pe), .val (.long (-1 : Int64)), .second]) rfl ?_
    show Steps p.tables e below (s₁.setTop (mkF m 4 #[.val (.int pw), .val (.int pb), .val (.int pe), .val (.long (-1 : Int64)), .second] [])) _
    refine XS.iloadN X0.here hx rfl (hb hby d2_4) rfl ?_
    show Steps p.tables e below (s₁.setTop (mkF m 5 #[.val (.int pw), .val (.int pb), .val (.int pe), .val (.long (-1 : Int64)), .second] [(.int pw)])) _
    refine XS.iloadN X0.here hx rfl (hb hby d2_5) rfl ?_
    show Steps p.tables e below (s₁.setTop (mkF m 6 #[.val (.int pw), .val (.int pb), .val (.int pe), .val (.long (-1 : Int64)), .second] [(.int pb), (.int pw)])) _
    refine XS.bipush X0.here hx rfl (hb hby d2_6) ?_
    show Steps p.tables e below (s₁.setTop (mkF m 8 #[.val (.int pw), .val (.int pb), .val (.int pe), .val (.long (-1 : Int64)), .second] [(.int (6 : Int32)), (.int pb), (.int pw)])) _
    refine XS.iushr X0.here hx rfl (hb hby d2_8) rfl ?_
    show Steps p.tables e below (s₁.setTop (mkF m 9 #[.val (.int pw), .val (.int pb), .val (.int pe), .val (.long (-1 : Int64)), .second] [(.int ((pb.toUInt32 >>> ((6 : Int32) &&& 31).toUInt32).toInt32)), (.int pw)])) _
    exact kt
  by_cases hc9_2 : pw = ((pb.toUInt32 >>> ((6 : Int32) &&& 31).toUInt32).toInt32)
  · have pre3 : ∀ tq, Steps p.tables e below (s₁.setTop (mkF m 27 #[.val (.int pw), .val (.int pb), .val (.int pe), .val (.long ((-1 : Int64) &&& ((-1 : Int64) <<< (pb.toInt64 &&& 63)))), .second] [(.int (((pe - (1 : Int32)).toUInt32 >>> ((6 : Int32) &&& 31).toUInt32).toInt32)), (.int pw)])) tq → Steps p.tables e below (s₁.setTop (entryFrame m #[(.int pw), (.int pb), (.int pe)] 5)) tq := by
      intro tq kt
      refine pre1 tq ?_
      show Steps p.tables e below (s₁.setTop (mkF m 9 #[.val (.int pw), .val (.int pb), .val (.int pe), .val (.long (-1 : Int64)), .second] [(.int ((pb.toUInt32 >>> ((6 : Int32) &&& 31).toUInt32).toInt32)), (.int pw)])) _
      refine XS.icmpNo X0.here hx rfl (hb hby d2_9) rfl (teq hc9_2).2 ?_
      show Steps p.tables e below (s₁.setTop (mkF m 12 #[.val (.int pw), .val (.int pb), .val (.int pe), .val (.long (-1 : Int64)), .second] [])) _
      refine XS.lloadN X0.here hx rfl (hb hby d2_12) rfl ?_
      show Steps p.tables e below (s₁.setTop (mkF m 13 #[.val (.int pw), .val (.int pb), .val (.int pe), .val (.long (-1 : Int64)), .second] [(.long (-1 : Int64))])) _
      refine X0.ldc2Long hx hown (mvT hZ (hw _ (List.mem_of_getElem? (i := 9) rfl))) (g := (mkF m 13 #[.val (.int pw), .val (.int pb), .val (.int pe), .val (.long (-1 : Int64)), .second] [(.long (-1 : Int64))])) rfl (hb hby d2_13) _ ?_
      show Steps p.tables e below (s₁.setTop (mkF m 16 #[.val (.int pw), .val (.int pb), .val (.int pe), .val (.long (-1 : Int64)), .second] [(.long (-1 : Int64)), (.long (-1 : Int64))])) _
      refine XS.iloadN X0.here hx rfl (hb hby d2_16) rfl ?_
      show Steps p.tables e below (s₁.setTop (mkF m 17 #[.val (.int pw), .val (.int pb), .val (.int pe), .val (.long (-1 : Int64)), .second] [(.int pb), (.long (-1 : Int64)), (.long (-1 : Int64))])) _
      refine XT.lshl X0.here hx rfl (hb hby d2_17) rfl ?_
      show Steps p.tables e below (s₁.setTop (mkF m 18 #[.val (.int pw), .val (.int pb), .val (.int pe), .val (.long (-1 : Int64)), .second] [(.long ((-1 : Int64) <<< (pb.toInt64 &&& 63))), (.long (-1 : Int64))])) _
      refine XS.land X0.here hx rfl (hb hby d2_18) rfl ?_
      show Steps p.tables e below (s₁.setTop (mkF m 19 #[.val (.int pw), .val (.int pb), .val (.int pe), .val (.long (-1 : Int64)), .second] [(.long ((-1 : Int64) &&& ((-1 : Int64) <<< (pb.toInt64 &&& 63))))])) _
      refine XS.lstoreN X0.here hx rfl (hb hby d2_19) rfl (l' := #[.val (.int pw), .val (.int pb), .val (.int pe), .val (.long ((-1 : Int64) &&& ((-1 : Int64) <<< (pb.toInt64 &&& 63)))), .second]) rfl ?_
      show Steps p.tables e below (s₁.setTop (mkF m 20 #[.val (.int pw), .val (.int pb), .val (.int pe), .val (.long ((-1 : Int64) &&& ((-1 : Int64) <<< (pb.toInt64 &&& 63)))), .second] [])) _
      refine XS.iloadN X0.here hx rfl (hb hby d2_20) rfl ?_
      show Steps p.tables e below (s₁.setTop (mkF m 21 #[.val (.int pw), .val (.int pb), .val (.int pe), .val (.long ((-1 : Int64) &&& ((-1 : Int64) <<< (pb.toInt64 &&& 63)))), .second] [(.int pw)])) _
      refine XS.iloadN X0.here hx rfl (hb hby d2_21) rfl ?_
      show Steps p.tables e below (s₁.setTop (mkF m 22 #[.val (.int pw), .val (.int pb), .val (.int pe), .val (.long ((-1 : Int64) &&& ((-1 : Int64) <<< (pb.toInt64 &&& 63)))), .second] [(.int pe), (.int pw)])) _
      refine XS.iconst X0.here hx rfl (hb hby d2_22) ?_
      show Steps p.tables e below (s₁.setTop (mkF m 23 #[.val (.int pw), .val (.int pb), .val (.int pe), .val (.long ((-1 : Int64) &&& ((-1 : Int64) <<< (pb.toInt64 &&& 63)))), .second] [(.int (1 : Int32)), (.int pe), (.int pw)])) _
      refine XS.isub X0.here hx rfl (hb hby d2_23) rfl ?_
      show Steps p.tables e below (s₁.setTop (mkF m 24 #[.val (.int pw), .val (.int pb), .val (.int pe), .val (.long ((-1 : Int64) &&& ((-1 : Int64) <<< (pb.toInt64 &&& 63)))), .second] [(.int (pe - (1 : Int32))), (.int pw)])) _
      refine XS.bipush X0.here hx rfl (hb hby d2_24) ?_
      show Steps p.tables e below (s₁.setTop (mkF m 26 #[.val (.int pw), .val (.int pb), .val (.int pe), .val (.long ((-1 : Int64) &&& ((-1 : Int64) <<< (pb.toInt64 &&& 63)))), .second] [(.int (6 : Int32)), (.int (pe - (1 : Int32))), (.int pw)])) _
      refine XS.iushr X0.here hx rfl (hb hby d2_26) rfl ?_
      show Steps p.tables e below (s₁.setTop (mkF m 27 #[.val (.int pw), .val (.int pb), .val (.int pe), .val (.long ((-1 : Int64) &&& ((-1 : Int64) <<< (pb.toInt64 &&& 63)))), .second] [(.int (((pe - (1 : Int32)).toUInt32 >>> ((6 : Int32) &&& 31).toUInt32).toInt32)), (.int pw)])) _
      exact kt
    by_cases hc27_4 : pw = (((pe - (1 : Int32)).toUInt32 >>> ((6 : Int32) &&& 31).toUInt32).toInt32)
    · obtain ⟨fs, hr, hrun, hended, hW, hsame⟩ := X0.leave (v := some (.long (((-1 : Int64) &&& ((-1 : Int64) <<< (pb.toInt64 &&& 63))) &&& (XT.ushrL (-1 : Int64) (-pe))))) (fun h => by rw [Bd.returns] at h; cases h)
      refine ⟨_, _, pre3 _ ?_, hrun, hended, _, _, rfl, ?_, ⟨_, rfl⟩, hW, hsame.mono (by decide) (by decide)⟩
      · show Steps p.tables e below (s₁.setTop (mkF m 27 #[.val (.int pw), .val (.int pb), .val (.int pe), .val (.long ((-1 : Int64) &&& ((-1 : Int64) <<< (pb.toInt64 &&& 63)))), .second] [(.int (((pe - (1 : Int32)).toUInt32 >>> ((6 : Int32) &&& 31).toUInt32).toInt32)), (.int pw)])) _
        refine XS.icmpNo X0.here hx rfl (hb hby d2_27) rfl (teq hc27_4).2 ?_
        show Steps p.tables e below (s₁.setTop (mkF m 30 #[.val (.int pw), .val (.int pb), .val (.int pe), .val (.long ((-1 : Int64) &&& ((-1 : Int64) <<< (pb.toInt64 &&& 63)))), .second] [])) _
        refine XS.lloadN X0.here hx rfl (hb hby d2_30) rfl ?_
        show Steps p.tables e below (s₁.setTop (mkF m 31 #[.val (.int pw), .val (.int pb), .val (.int pe), .val (.long ((-1 : Int64) &&& ((-1 : Int64) <<< (pb.toInt64 &&& 63)))), .second] [(.long ((-1 : Int64) &&& ((-1 : Int64) <<< (pb.toInt64 &&& 63))))])) _
        refine X0.ldc2Long hx hown (mvT hZ (hw _ (List.mem_of_getElem? (i := 9) rfl))) (g := (mkF m 31 #[.val (.int pw), .val (.int pb), .val (.int pe), .val (.long ((-1 : Int64) &&& ((-1 : Int64) <<< (pb.toInt64 &&& 63)))), .second] [(.long ((-1 : Int64) &&& ((-1 : Int64) <<< (pb.toInt64 &&& 63))))])) rfl (hb hby d2_31) _ ?_
        show Steps p.tables e below (s₁.setTop (mkF m 34 #[.val (.int pw), .val (.int pb), .val (.int pe), .val (.long ((-1 : Int64) &&& ((-1 : Int64) <<< (pb.toInt64 &&& 63)))), .second] [(.long (-1 : Int64)), (.long ((-1 : Int64) &&& ((-1 : Int64) <<< (pb.toInt64 &&& 63))))])) _
        refine XS.iloadN X0.here hx rfl (hb hby d2_34) rfl ?_
        show Steps p.tables e below (s₁.setTop (mkF m 35 #[.val (.int pw), .val (.int pb), .val (.int pe), .val (.long ((-1 : Int64) &&& ((-1 : Int64) <<< (pb.toInt64 &&& 63)))), .second] [(.int pe), (.long (-1 : Int64)), (.long ((-1 : Int64) &&& ((-1 : Int64) <<< (pb.toInt64 &&& 63))))])) _
        refine XS.ineg X0.here hx rfl (hb hby d2_35) rfl ?_
        show Steps p.tables e below (s₁.setTop (mkF m 36 #[.val (.int pw), .val (.int pb), .val (.int pe), .val (.long ((-1 : Int64) &&& ((-1 : Int64) <<< (pb.toInt64 &&& 63)))), .second] [(.int (-pe)), (.long (-1 : Int64)), (.long ((-1 : Int64) &&& ((-1 : Int64) <<< (pb.toInt64 &&& 63))))])) _
        refine XT.lushr X0.here hx rfl (hb hby d2_36) rfl ?_
        show Steps p.tables e below (s₁.setTop (mkF m 37 #[.val (.int pw), .val (.int pb), .val (.int pe), .val (.long ((-1 : Int64) &&& ((-1 : Int64) <<< (pb.toInt64 &&& 63)))), .second] [(.long (XT.ushrL (-1 : Int64) (-pe))), (.long ((-1 : Int64) &&& ((-1 : Int64) <<< (pb.toInt64 &&& 63))))])) _
        refine XS.land X0.here hx rfl (hb hby d2_37) rfl ?_
        show Steps p.tables e below (s₁.setTop (mkF m 38 #[.val (.int pw), .val (.int pb), .val (.int pe), .val (.long ((-1 : Int64) &&& ((-1 : Int64) <<< (pb.toInt64 &&& 63)))), .second] [(.long (((-1 : Int64) &&& ((-1 : Int64) <<< (pb.toInt64 &&& 63))) &&& (XT.ushrL (-1 : Int64) (-pe))))])) _
        refine XS.lstoreN X0.here hx rfl (hb hby d2_38) rfl (l' := #[.val (.int pw), .val (.int pb), .val (.int pe), .val (.long (((-1 : Int64) &&& ((-1 : Int64) <<< (pb.toInt64 &&& 63))) &&& (XT.ushrL (-1 : Int64) (-pe)))), .second]) rfl ?_
        show Steps p.tables e below (s₁.setTop (mkF m 39 #[.val (.int pw), .val (.int pb), .val (.int pe), .val (.long (((-1 : Int64) &&& ((-1 : Int64) <<< (pb.toInt64 &&& 63))) &&& (XT.ushrL (-1 : Int64) (-pe)))), .second] [])) _
        refine XS.lloadN X0.here hx rfl (hb hby d2_39) rfl ?_
        show Steps p.tables e below (s₁.setTop (mkF m 40 #[.val (.int pw), .val (.int pb), .val (.int pe), .val (.long (((-1 : Int64) &&& ((-1 : Int64) <<< (pb.toInt64 &&& 63))) &&& (XT.ushrL (-1 : Int64) (-pe)))), .second] [(.long (((-1 : Int64) &&& ((-1 : Int64) <<< (pb.toInt64 &&& 63))) &&& (XT.ushrL (-1 : Int64) (-pe))))])) _
        exact retOut X0 hx Bd.returns rfl (Or.inr (Or.inl ⟨rfl, rfl, _, rfl⟩)) (hb hby d2_40) hr
      · show Q2 Z pw pb pe h0 n0 _ s₁.heap _
        rw [e0]
        exact ⟨_, rfl, N0, rfl⟩
    · obtain ⟨fs, hr, hrun, hended, hW, hsame⟩ := X0.leave (v := some (.long ((-1 : Int64) &&& ((-1 : Int64) <<< (pb.toInt64 &&& 63))))) (fun h => by rw [Bd.returns] at h; cases h)
      refine ⟨_, _, pre3 _ ?_, hrun, hended, _, _, rfl, ?_, ⟨_, rfl⟩, hW, hsame.mono (by decide) (by decide)⟩
      · show Steps p.tables e below (s₁.setTop (mkF m 27 #[.val (.int pw), .val (.int pb), .val (.int pe), .val (.long ((-1 : Int64) &&& ((-1 : Int64) <<< (pb.toInt64 &&& 63)))), .second] [(.int (((pe - (1 : Int32)).toUInt32 >>> ((6 : Int32) &&& 31).toUInt32).toInt32)), (.int pw)])) _
        refine XS.icmpYes X0.here hx rfl (pc0 := 27) (pc' := 39) rfl (hb hby d2_27) rfl (feq hc27_4).2 (by decide) (by decide) ?_
        show Steps p.tables e below (s₁.setTop (mkF m 39 #[.val (.int pw), .val (.int pb), .val (.int pe), .val (.long ((-1 : Int64) &&& ((-1 : Int64) <<< (pb.toInt64 &&& 63)))), .second] [])) _
        refine XS.lloadN X0.here hx rfl (hb hby d2_39) rfl ?_
        show Steps p.tables e below (s₁.setTop (mkF m 40 #[.val (.int pw), .val (.int pb), .val (.int pe), .val (.long ((-1 : Int64) &&& ((-1 : Int64) <<< (pb.toInt64 &&& 63)))), .second] [(.long ((-1 : Int64) &&& ((-1 : Int64) <<< (pb.toInt64 &&& 63))))])) _
        exact retOut X0 hx Bd.returns rfl (Or.inr (Or.inl ⟨rfl, rfl, _, rfl⟩)) (hb hby d2_40) hr
      · show Q2 Z pw pb pe h0 n0 _ s₁.heap _
        rw [e0]
        exact ⟨_, rfl, N0, rfl⟩
  · have pre7 : ∀ tq, Steps p.tables e below (s₁.setTop (mkF m 27 #[.val (.int pw), .val (.int pb), .val (.int pe), .val (.long (-1 : Int64)), .second] [(.int (((pe - (1 : Int32)).toUInt32 >>> ((6 : Int32) &&& 31).toUInt32).toInt32)), (.int pw)])) tq → Steps p.tables e below (s₁.setTop (entryFrame m #[(.int pw), (.int pb), (.int pe)] 5)) tq := by
      intro tq kt
      refine pre1 tq ?_
      show Steps p.tables e below (s₁.setTop (mkF m 9 #[.val (.int pw), .val (.int pb), .val (.int pe), .val (.long (-1 : Int64)), .second] [(.int ((pb.toUInt32 >>> ((6 : Int32) &&& 31).toUInt32).toInt32)), (.int pw)])) _
      refine XS.icmpYes X0.here hx rfl (pc0 := 9) (pc' := 20) rfl (hb hby d2_9) rfl (feq hc9_2).2 (by decide) (by decide) ?_
      show Steps p.tables e below (s₁.setTop (mkF m 20 #[.val (.int pw), .val (.int pb), .val (.int pe), .val (.long (-1 : Int64)), .second] [])) _
      refine XS.iloadN X0.here hx rfl (hb hby d2_20) rfl ?_
      show Steps p.tables e below (s₁.setTop (mkF m 21 #[.val (.int pw), .val (.int pb), .val (.int pe), .val (.long (-1 : Int64)), .second] [(.int pw)])) _
      refine XS.iloadN X0.here hx rfl (hb hby d2_21) rfl ?_
      show Steps p.tables e below (s₁.setTop (mkF m 22 #[.val (.int pw), .val (.int pb), .val (.int pe), .val (.long (-1 : Int64)), .second] [(.int pe), (.int pw)])) _
      refine XS.iconst X0.here hx rfl (hb hby d2_22) ?_
      show Steps p.tables e below (s₁.setTop (mkF m 23 #[.val (.int pw), .val (.int pb), .val (.int pe), .val (.long (-1 : Int64)), .second] [(.int (1 : Int32)), (.int pe), (.int pw)])) _
      refine XS.isub X0.here hx rfl (hb hby d2_23) rfl ?_
      show Steps p.tables e below (s₁.setTop (mkF m 24 #[.val (.int pw), .val (.int pb), .val (.int pe), .val (.long (-1 : Int64)), .second] [(.int (pe - (1 : Int32))), (.int pw)])) _
      refine XS.bipush X0.here hx rfl (hb hby d2_24) ?_
      show Steps p.tables e below (s₁.setTop (mkF m 26 #[.val (.int pw), .val (.int pb), .val (.int pe), .val (.long (-1 : Int64)), .second] [(.int (6 : Int32)), (.int (pe - (1 : Int32))), (.int pw)])) _
      refine XS.iushr X0.here hx rfl (hb hby d2_26) rfl ?_
      show Steps p.tables e below (s₁.setTop (mkF m 27 #[.val (.int pw), .val (.int pb), .val (.int pe), .val (.long (-1 : Int64)), .second] [(.int (((pe - (1 : Int32)).toUInt32 >>> ((6 : Int32) &&& 31).toUInt32).toInt32)), (.int pw)])) _
      exact kt
    by_cases hc27_8 : pw = (((pe - (1 : Int32)).toUInt32 >>> ((6 : Int32) &&& 31).toUInt32).toInt32)
    · obtain ⟨fs, hr, hrun, hended, hW, hsame⟩ := X0.leave (v := some (.long ((-1 : Int64) &&& (XT.ushrL (-1 : Int64) (-pe))))) (fun h => by rw [Bd.returns] at h; cases h)
      refine ⟨_, _, pre7 _ ?_, hrun, hended, _, _, rfl, ?_, ⟨_, rfl⟩, hW, hsame.mono (by decide) (by decide)⟩
      · show Steps p.tables e below (s₁.setTop (mkF m 27 #[.val (.int pw), .val (.int pb), .val (.int pe), .val (.long (-1 : Int64)), .second] [(.int (((pe - (1 : Int32)).toUInt32 >>> ((6 : Int32) &&& 31).toUInt32).toInt32)), (.int pw)])) _
        refine XS.icmpNo X0.here hx rfl (hb hby d2_27) rfl (teq hc27_8).2 ?_
        show Steps p.tables e below (s₁.setTop (mkF m 30 #[.val (.int pw), .val (.int pb), .val (.int pe), .val (.long (-1 : Int64)), .second] [])) _
        refine XS.lloadN X0.here hx rfl (hb hby d2_30) rfl ?_
        show Steps p.tables e below (s₁.setTop (mkF m 31 #[.val (.int pw), .val (.int pb), .val (.int pe), .val (.long (-1 : Int64)), .second] [(.long (-1 : Int64))])) _
        refine X0.ldc2Long hx hown (mvT hZ (hw _ (List.mem_of_getElem? (i := 9) rfl))) (g := (mkF m 31 #[.val (.int pw), .val (.int pb), .val (.int pe), .val (.long (-1 : Int64)), .second] [(.long (-1 : Int64))])) rfl (hb hby d2_31) _ ?_
        show Steps p.tables e below (s₁.setTop (mkF m 34 #[.val (.int pw), .val (.int pb), .val (.int pe), .val (.long (-1 : Int64)), .second] [(.long (-1 : Int64)), (.long (-1 : Int64))])) _
        refine XS.iloadN X0.here hx rfl (hb hby d2_34) rfl ?_
        show Steps p.tables e below (s₁.setTop (mkF m 35 #[.val (.int pw), .val (.int pb), .val (.int pe), .val (.long (-1 : Int64)), .second] [(.int pe), (.long (-1 : Int64)), (.long (-1 : Int64))])) _
        refine XS.ineg X0.here hx rfl (hb hby d2_35) rfl ?_
        show Steps p.tables e below (s₁.setTop (mkF m 36 #[.val (.int pw), .val (.int pb), .val (.int pe), .val (.long (-1 : Int64)), .second] [(.int (-pe)), (.long (-1 : Int64)), (.long (-1 : Int64))])) _
        refine XT.lushr X0.here hx rfl (hb hby d2_36) rfl ?_
        show Steps p.tables e below (s₁.setTop (mkF m 37 #[.val (.int pw), .val (.int pb), .val (.int pe), .val (.long (-1 : Int64)), .second] [(.long (XT.ushrL (-1 : Int64) (-pe))), (.long (-1 : Int64))])) _
        refine XS.land X0.here hx rfl (hb hby d2_37) rfl ?_
        show Steps p.tables e below (s₁.setTop (mkF m 38 #[.val (.int pw), .val (.int pb), .val (.int pe), .val (.long (-1 : Int64)), .second] [(.long ((-1 : Int64) &&& (XT.ushrL (-1 : Int64) (-pe))))])) _
        refine XS.lstoreN X0.here hx rfl (hb hby d2_38) rfl (l' := #[.val (.int pw), .val (.int pb), .val (.int pe), .val (.long ((-1 : Int64) &&& (XT.ushrL (-1 : Int64) (-pe)))), .second]) rfl ?_
        show Steps p.tables e below (s₁.setTop (mkF m 39 #[.val (.int pw), .val (.int pb), .val (.int pe), .val (.long ((-1 : Int64) &&& (XT.ushrL (-1 : Int64) (-pe)))), .second] [])) _
        refine XS.lloadN X0.here hx rfl (hb hby d2_39) rfl ?_
        show Steps p.tables e below (s₁.setTop (mkF m 40 #[.val (.int pw), .val (.int pb), .val (.int pe), .val (.long ((-1 : Int64) &&& (XT.ushrL (-1 : Int64) (-pe)))), .second] [(.long ((-1 : Int64) &&& (XT.ushrL (-1 : Int64) (-pe))))])) _
        exact retOut X0 hx Bd.returns rfl (Or.inr (Or.inl ⟨rfl, rfl, _, rfl⟩)) (hb hby d2_40) hr
      · show Q2 Z pw pb pe h0 n0 _ s₁.heap _
        rw [e0]
        exact ⟨_, rfl, N0, rfl⟩
    · obtain ⟨fs, hr, hrun, hended, hW, hsame⟩ := X0.leave (v := some (.long (-1 : Int64))) (fun h => by rw [Bd.returns] at h; cases h)
      refine ⟨_, _, pre7 _ ?_, hrun, hended, _, _, rfl, ?_, ⟨_, rfl⟩, hW, hsame.mono (by decide) (by decide)⟩
      · show Steps p.tables e below (s₁.setTop (mkF m 27 #[.val (.int pw), .val (.int pb), .val (.int pe), .val (.long (-1 : Int64)), .second] [(.int (((pe - (1 : Int32)).toUInt32 >>> ((6 : Int32) &&& 31).toUInt32).toInt32)), (.int pw)])) _
        refine XS.icmpYes X0.here hx rfl (pc0 := 27) (pc' := 39) rfl (hb hby d2_27) rfl (feq hc27_8).2 (by decide) (by decide) ?_
        show Steps p.tables e below (s₁.setTop (mkF m 39 #[.val (.int pw), .val (.int pb), .val (.int pe), .val (.long (-1 : Int64)), .second] [])) _
        refine XS.lloadN X0.here hx rfl (hb hby d2_39) rfl ?_
        show Steps p.tables e below (s₁.setTop (mkF m 40 #[.val (.int pw), .val (.int pb), .val (.int pe), .val (.long (-1 : Int64)), .second] [(.long (-1 : Int64))])) _
        exact retOut X0 hx Bd.returns rfl (Or.inr (Or.inl ⟨rfl, rfl, _, rfl⟩)) (hb hby d2_40) hr
      · show Q2 Z pw pb pe h0 n0 _ s₁.heap _
        rw [e0]
        exact ⟨_, rfl, N0, rfl⟩
theorem d3_0 : decode jdk_35_method_50_code 0 = .ok (.lload_n 0, 1) := by decide +kernel
theorem d3_1 : decode jdk_35_method_50_code 1 = .ok (.lload_n 0, 1) := by decide +kernel
theorem d3_2 : decode jdk_35_method_50_code 2 = .ok (.iconst 1, 1) := by decide +kernel
theorem d3_3 : decode jdk_35_method_50_code 3 = .ok (.lushr, 1) := by decide +kernel
theorem d3_4 : decode jdk_35_method_50_code 4 = .ok (.ldc2_w 314, 3) := by decide +kernel
theorem d3_7 : decode jdk_35_method_50_code 7 = .ok (.land, 1) := by decide +kernel
theorem d3_8 : decode jdk_35_method_50_code 8 = .ok (.lsub, 1) := by decide +kernel
theorem d3_9 : decode jdk_35_method_50_code 9 = .ok (.lstore_n 0, 1) := by decide +kernel
theorem d3_10 : decode jdk_35_method_50_code 10 = .ok (.lload_n 0, 1) := by decide +kernel
theorem d3_11 : decode jdk_35_method_50_code 11 = .ok (.ldc2_w 316, 3) := by decide +kernel
theorem d3_14 : decode jdk_35_method_50_code 14 = .ok (.land, 1) := by decide +kernel
theorem d3_15 : decode jdk_35_method_50_code 15 = .ok (.lload_n 0, 1) := by decide +kernel
theorem d3_16 : decode jdk_35_method_50_code 16 = .ok (.iconst 2, 1) := by decide +kernel
theorem d3_17 : decode jdk_35_method_50_code 17 = .ok (.lushr, 1) := by decide +kernel
theorem d3_18 : decode jdk_35_method_50_code 18 = .ok (.ldc2_w 316, 3) := by decide +kernel
theorem d3_21 : decode jdk_35_method_50_code 21 = .ok (.land, 1) := by decide +kernel
theorem d3_22 : decode jdk_35_method_50_code 22 = .ok (.ladd, 1) := by decide +kernel
theorem d3_23 : decode jdk_35_method_50_code 23 = .ok (.lstore_n 0, 1) := by decide +kernel
theorem d3_24 : decode jdk_35_method_50_code 24 = .ok (.lload_n 0, 1) := by decide +kernel
theorem d3_25 : decode jdk_35_method_50_code 25 = .ok (.lload_n 0, 1) := by decide +kernel
theorem d3_26 : decode jdk_35_method_50_code 26 = .ok (.iconst 4, 1) := by decide +kernel
theorem d3_27 : decode jdk_35_method_50_code 27 = .ok (.lushr, 1) := by decide +kernel
theorem d3_28 : decode jdk_35_method_50_code 28 = .ok (.ladd, 1) := by decide +kernel
theorem d3_29 : decode jdk_35_method_50_code 29 = .ok (.ldc2_w 318, 3) := by decide +kernel
theorem d3_32 : decode jdk_35_method_50_code 32 = .ok (.land, 1) := by decide +kernel
theorem d3_33 : decode jdk_35_method_50_code 33 = .ok (.lstore_n 0, 1) := by decide +kernel
theorem d3_34 : decode jdk_35_method_50_code 34 = .ok (.lload_n 0, 1) := by decide +kernel
theorem d3_35 : decode jdk_35_method_50_code 35 = .ok (.lload_n 0, 1) := by decide +kernel
theorem d3_36 : decode jdk_35_method_50_code 36 = .ok (.bipush 8, 2) := by decide +kernel
theorem d3_38 : decode jdk_35_method_50_code 38 = .ok (.lushr, 1) := by decide +kernel
theorem d3_39 : decode jdk_35_method_50_code 39 = .ok (.ladd, 1) := by decide +kernel
theorem d3_40 : decode jdk_35_method_50_code 40 = .ok (.lstore_n 0, 1) := by decide +kernel
theorem d3_41 : decode jdk_35_method_50_code 41 = .ok (.lload_n 0, 1) := by decide +kernel
theorem d3_42 : decode jdk_35_method_50_code 42 = .ok (.lload_n 0, 1) := by decide +kernel
theorem d3_43 : decode jdk_35_method_50_code 43 = .ok (.bipush 16, 2) := by decide +kernel
theorem d3_45 : decode jdk_35_method_50_code 45 = .ok (.lushr, 1) := by decide +kernel
theorem d3_46 : decode jdk_35_method_50_code 46 = .ok (.ladd, 1) := by decide +kernel
theorem d3_47 : decode jdk_35_method_50_code 47 = .ok (.lstore_n 0, 1) := by decide +kernel
theorem d3_48 : decode jdk_35_method_50_code 48 = .ok (.lload_n 0, 1) := by decide +kernel
theorem d3_49 : decode jdk_35_method_50_code 49 = .ok (.lload_n 0, 1) := by decide +kernel
theorem d3_50 : decode jdk_35_method_50_code 50 = .ok (.bipush 32, 2) := by decide +kernel
theorem d3_52 : decode jdk_35_method_50_code 52 = .ok (.lushr, 1) := by decide +kernel
theorem d3_53 : decode jdk_35_method_50_code 53 = .ok (.ladd, 1) := by decide +kernel
theorem d3_54 : decode jdk_35_method_50_code 54 = .ok (.lstore_n 0, 1) := by decide +kernel
theorem d3_55 : decode jdk_35_method_50_code 55 = .ok (.lload_n 0, 1) := by decide +kernel
theorem d3_56 : decode jdk_35_method_50_code 56 = .ok (.l2i, 1) := by decide +kernel
theorem d3_57 : decode jdk_35_method_50_code 57 = .ok (.bipush 127, 2) := by decide +kernel
theorem d3_59 : decode jdk_35_method_50_code 59 = .ok (.iand, 1) := by decide +kernel
theorem d3_60 : decode jdk_35_method_50_code 60 = .ok (.ireturn, 1) := by decide +kernel
theorem pn_1 : plainName "java/lang/Long" = true := by first | (simp [plainName, overriddenIn]; done) | decide +kernel
theorem ef_rm3 (m : MethodId) (x0 : Int64) : entryFrame m #[(.long x0)] 2 = mkF m 0 #[.val (.long x0), .second] [] := by first | (simp [entryFrame, mkF, argsToLocals, Value.category]; done) | rfl
def Q3 (Z : State) (px : Int64) (h0 : Heap) (n0 : Nat) (v : Option Value) (h : Heap) (L : List Loc) : Prop := ∃ z : Int32, v = some (.int z) ∧ Fr n0 L ∧ h = h0
set_option maxRecDepth 65536 in
set_option maxHeartbeats 40000000 in
theorem rm3 (l : Launch) (Z : State) (a0 : Array Value) (hw : ∀ d ∈ tables_1, d.before a0 Z = true) (ws : List Jvm.Cond) (px : Int64) (h0 : Heap) (n0 : Nat) (Z0 : n0 ≤ h0.size) :
    MetFree l (⟨"java/lang/Long", "bitCount", "(J)I"⟩ : MethodName) (head1 (Jvm.Cond.code (⟨"java/lang/Long", "bitCount", "(J)I"⟩ : MethodName) jdk_35_method_50_code 2 (some .int) :: ws) ({ frames := 0, cells := 0, slots := 0, locals := 0 } : Room)) (fun a U => a = #[(.long px)] ∧ Z.Warmed39 U.vm ∧ U.heap = h0) (fun _ _ _ _ _ => True) (fun _ U o U' => ∃ v L, o = .returned v ∧ Q3 Z px h0 n0 v U'.heap L ∧ FrameEnd U o U' L ({ frames := 0, cells := 0, slots := 0, locals := 0 } : Room).cells ({ frames := 0, cells := 0, slots := 0, locals := 0 } : Room).slots) := by
  refine MetFree.of_bodySF (plainFor_of_name pn_1) hisR ?_
  intro p e s m args below meth c s₁ Bd hml0 hP hK
  obtain ⟨rfl, hZ, hh⟩ := hP
  have hx := Bd.exec
  have hby := Bd.bytes
  have hml : c.maxLocals = 2 := hml0
  have hown : s.vm.findClass "java/lang/Long" = some m.cls := findClass_of_methodNamed Bd.named
  have hnm := (name_of_methodNamed Bd.named Bd.method).1
  have X0 : Stand p l e ({ frames := 0, cells := 0, slots := 0, locals := 0 } : Room) s m #[(.long px)] below meth c s₁ [] 0 0 := Stand.of_body Bd
  have e0 : s₁.heap = h0 := by rw [← hh, Bd.state]; rfl
  have N0 := Fr.nil n0
  have pre0 : ∀ t, Steps p.tables e below (s₁.setTop (mkF m 0 #[.val (.long px), .second] [])) t → Steps p.tables e below (s₁.setTop (entryFrame m #[(.long px)] 2)) t := fun t k => castTop (ef_rm3 m px) k
  have pre1 : ∀ tq, Steps p.tables e below (s₁.setTop (mkF m 10 #[.val (.long (px - ((XT.ushrL px (1 : Int32)) &&& (6148914691236517205 : Int64)))), .second] [])) tq → Steps p.tables e below (s₁.setTop (entryFrame m #[(.long px)] 2)) tq := by
    intro tq kt
    refine pre0 tq ?_
    show Steps p.tables e below (s₁.setTop (mkF m 0 #[.val (.long px), .second] [])) _
    refine XS.lloadN X0.here hx rfl (hb hby d3_0) rfl ?_
    show Steps p.tables e below (s₁.setTop (mkF m 1 #[.val (.long px), .second] [(.long px)])) _
    refine XS.lloadN X0.here hx rfl (hb hby d3_1) rfl ?_
    show Steps p.tables e below (s₁.setTop (mkF m 2 #[.val (.long px), .second] [(.long px), (.long px)])) _
    refine XS.iconst X0.here hx rfl (hb hby d3_2) ?_
    show Steps p.tables e below (s₁.setTop (mkF m 3 #[.val (.long px), .second] [(.int (1 : Int32)), (.long px), (.long px)])) _
    refine XT.lushr X0.here hx rfl (hb hby d3_3) rfl ?_
    show Steps p.tables e below (s₁.setTop (mkF m 4 #[.val (.long px), .second] [(.long (XT.ushrL px (1 : Int32))), (.long px)])) _
    refine X0.ldc2Long hx hown (mvT hZ (hw _ (List.mem_of_getElem? (i := 14) rfl))) (g := (mkF m 4 #[.val (.long px), .second] [(.long (XT.ushrL px (1 : Int32))), (.long px)])) rfl (hb hby d3_4) _ ?_
    show Steps p.tables e below (s₁.setTop (mkF m 7 #[.val (.long px), .second] [(.long (6148914691236517205 : Int64)), (.long (XT.ushrL px (1 : Int32))), (.long px)])) _
    refine XS.land X0.here hx rfl (hb hby d3_7) rfl ?_
    show Steps p.tables e below (s₁.setTop (mkF m 8 #[.val (.long px), .second] [(.long ((XT.ushrL px (1 : Int32)) &&& (6148914691236517205 : Int64))), (.long px)])) _
    refine XS.lsub X0.here hx rfl (hb hby d3_8) rfl ?_
    show Steps p.tables e below (s₁.setTop (mkF m 9 #[.val (.long px), .second] [(.long (px - ((XT.ushrL px (1 : Int32)) &&& (6148914691236517205 : Int64))))])) _
    refine XS.lstoreN X0.here hx rfl (hb hby d3_9) rfl (l' := #[.val (.long (px - ((XT.ushrL px (1 : Int32)) &&& (6148914691236517205 : Int64)))), .second]) rfl ?_
    show Steps p.tables e below (s₁.setTop (mkF m 10 #[.val (.long (px - ((XT.ushrL px (1 : Int32)) &&& (6148914691236517205 : Int64)))), .second] [])) _
    exact kt
  obtain ⟨y10, h_y10⟩ : ∃ z : Int64, z = (px - ((XT.ushrL px (1 : Int32)) &&& (6148914691236517205 : Int64))) := ⟨_, rfl⟩
  rw [← h_y10] at pre1
  have pre2 : ∀ tq, Steps p.tables e below (s₁.setTop (mkF m 24 #[.val (.long ((y10 &&& (3689348814741910323 : Int64)) + ((XT.ushrL y10 (2 : Int32)) &&& (3689348814741910323 : Int64)))), .second] [])) tq → Steps p.tables e below (s₁.setTop (entryFrame m #[(.long px)] 2)) tq := by
    intro tq kt
    refine pre1 tq ?_
    show Steps p.tables e below (s₁.setTop (mkF m 10 #[.val (.long y10), .second] [])) _
    refine XS.lloadN X0.here hx rfl (hb hby d3_10) rfl ?_
    show Steps p.tables e below (s₁.setTop (mkF m 11 #[.val (.long y10), .second] [(.long y10)])) _
    refine X0.ldc2Long hx hown (mvT hZ (hw _ (List.mem_of_getElem? (i := 15) rfl))) (g := (mkF m 11 #[.val (.long y10), .second] [(.long y10)])) rfl (hb hby d3_11) _ ?_
    show Steps p.tables e below (s₁.setTop (mkF m 14 #[.val (.long y10), .second] [(.long (3689348814741910323 : Int64)), (.long y10)])) _
    refine XS.land X0.here hx rfl (hb hby d3_14) rfl ?_
    show Steps p.tables e below (s₁.setTop (mkF m 15 #[.val (.long y10), .second] [(.long (y10 &&& (3689348814741910323 : Int64)))])) _
    refine XS.lloadN X0.here hx rfl (hb hby d3_15) rfl ?_
    show Steps p.tables e below (s₁.setTop (mkF m 16 #[.val (.long y10), .second] [(.long y10), (.long (y10 &&& (3689348814741910323 : Int64)))])) _
    refine XS.iconst X0.here hx rfl (hb hby d3_16) ?_
    show Steps p.tables e below (s₁.setTop (mkF m 17 #[.val (.long y10), .second] [(.int (2 : Int32)), (.long y10), (.long (y10 &&& (3689348814741910323 : Int64)))])) _
    refine XT.lushr X0.here hx rfl (hb hby d3_17) rfl ?_
    show Steps p.tables e below (s₁.setTop (mkF m 18 #[.val (.long y10), .second] [(.long (XT.ushrL y10 (2 : Int32))), (.long (y10 &&& (3689348814741910323 : Int64)))])) _
    refine X0.ldc2Long hx hown (mvT hZ (hw _ (List.mem_of_getElem? (i := 15) rfl))) (g := (mkF m 18 #[.val (.long y10), .second] [(.long (XT.ushrL y10 (2 : Int32))), (.long (y10 &&& (3689348814741910323 : Int64)))])) rfl (hb hby d3_18) _ ?_
    show Steps p.tables e below (s₁.setTop (mkF m 21 #[.val (.long y10), .second] [(.long (3689348814741910323 : Int64)), (.long (XT.ushrL y10 (2 : Int32))), (.long (y10 &&& (3689348814741910323 : Int64)))])) _
    refine XS.land X0.here hx rfl (hb hby d3_21) rfl ?_
    show Steps p.tables e below (s₁.setTop (mkF m 22 #[.val (.long y10), .second] [(.long ((XT.ushrL y10 (2 : Int32)) &&& (3689348814741910323 : Int64))), (.long (y10 &&& (3689348814741910323 : Int64)))])) _
    refine XS.ladd X0.here hx rfl (hb hby d3_22) rfl ?_
    show Steps p.tables e below (s₁.setTop (mkF m 23 #[.val (.long y10), .second] [(.long ((y10 &&& (3689348814741910323 : Int64)) + ((XT.ushrL y10 (2 : Int32)) &&& (3689348814741910323 : Int64))))])) _
    refine XS.lstoreN X0.here hx rfl (hb hby d3_23) rfl (l' := #[.val (.long ((y10 &&& (3689348814741910323 : Int64)) + ((XT.ushrL y10 (2 : Int32)) &&& (3689348814741910323 : Int64)))), .second]) rfl ?_
    show Steps p.tables e below (s₁.setTop (mkF m 24 #[.val (.long ((y10 &&& (3689348814741910323 : Int64)) + ((XT.ushrL y10 (2 : Int32)) &&& (3689348814741910323 : Int64)))), .second] [])) _
    exact kt
  obtain ⟨y24, h_y24⟩ : ∃ z : Int64, z = ((y10 &&& (3689348814741910323 : Int64)) + ((XT.ushrL y10 (2 : Int32)) &&& (3689348814741910323 : Int64))) := ⟨_, rfl⟩
  rw [← h_y24] at pre2
  have pre3 : ∀ tq, Steps p.tables e below (s₁.setTop (mkF m 34 #[.val (.long ((y24 + (XT.ushrL y24 (4 : Int32))) &&& (1085102592571150095 : Int64))), .second] [])) tq → Steps p.tables e below (s₁.setTop (entryFrame m #[(.long px)] 2)) tq := by
    intro tq kt
    refine pre2 tq ?_
    show Steps p.tables e below (s₁.setTop (mkF m 24 #[.val (.long y24), .second] [])) _
    refine XS.lloadN X0.here hx rfl (hb hby d3_24) rfl ?_
    show Steps p.tables e below (s₁.setTop (mkF m 25 #[.val (.long y24), .second] [(.long y24)])) _
    refine XS.lloadN X0.here hx rfl (hb hby d3_25) rfl ?_
    show Steps p.tables e below (s₁.setTop (mkF m 26 #[.val (.long y24), .second] [(.long y24), (.long y24)])) _
    refine XS.iconst X0.here hx rfl (hb hby d3_26) ?_
    show Steps p.tables e below (s₁.setTop (mkF m 27 #[.val (.long y24), .second] [(.int (4 : Int32)), (.long y24), (.long y24)])) _
    refine XT.lushr X0.here hx rfl (hb hby d3_27) rfl ?_
    show Steps p.tables e below (s₁.setTop (mkF m 28 #[.val (.long y24), .second] [(.long (XT.ushrL y24 (4 : Int32))), (.long y24)])) _
    refine XS.ladd X0.here hx rfl (hb hby d3_28) rfl ?_
    show Steps p.tables e below (s₁.setTop (mkF m 29 #[.val (.long y24), .second] [(.long (y24 + (XT.ushrL y24 (4 : Int32))))])) _
    refine X0.ldc2Long hx hown (mvT hZ (hw _ (List.mem_of_getElem? (i := 16) rfl))) (g := (mkF m 29 #[.val (.long y24), .second] [(.long (y24 + (XT.ushrL y24 (4 : Int32))))])) rfl (hb hby d3_29) _ ?_
    show Steps p.tables e below (s₁.setTop (mkF m 32 #[.val (.long y24), .second] [(.long (1085102592571150095 : Int64)), (.long (y24 + (XT.ushrL y24 (4 : Int32))))])) _
    refine XS.land X0.here hx rfl (hb hby d3_32) rfl ?_
    show Steps p.tables e below (s₁.setTop (mkF m 33 #[.val (.long y24), .second] [(.long ((y24 + (XT.ushrL y24 (4 : Int32))) &&& (1085102592571150095 : Int64)))])) _
    refine XS.lstoreN X0.here hx rfl (hb hby d3_33) rfl (l' := #[.val (.long ((y24 + (XT.ushrL y24 (4 : Int32))) &&& (1085102592571150095 : Int64))), .second]) rfl ?_
    show Steps p.tables e below (s₁.setTop (mkF m 34 #[.val (.long ((y24 + (XT.ushrL y24 (4 : Int32))) &&& (1085102592571150095 : Int64))), .second] [])) _
    exact kt
  obtain ⟨y34, h_y34⟩ : ∃ z : Int64, z = ((y24 + (XT.ushrL y24 (4 : Int32))) &&& (1085102592571150095 : Int64)) := ⟨_, rfl⟩
  rw [← h_y34] at pre3
  have pre4 : ∀ tq, Steps p.tables e below (s₁.setTop (mkF m 41 #[.val (.long (y34 + (XT.ushrL y34 (8 : Int32)))), .second] [])) tq → Steps p.tables e below (s₁.setTop (entryFrame m #[(.long px)] 2)) tq := by
    intro tq kt
    refine pre3 tq ?_
    show Steps p.tables e below (s₁.setTop (mkF m 34 #[.val (.long y34), .second] [])) _
    refine XS.lloadN X0.here hx rfl (hb hby d3_34) rfl ?_
    show Steps p.tables e below (s₁.setTop (mkF m 35 #[.val (.long y34), .second] [(.long y34)])) _
    refine XS.lloadN X0.here hx rfl (hb hby d3_35) rfl ?_
    show Steps p.tables e below (s₁.setTop (mkF m 36 #[.val (.long y34), .second] [(.long y34), (.long y34)])) _
    refine XS.bipush X0.here hx rfl (hb hby d3_36) ?_
    show Steps p.tables e below (s₁.setTop (mkF m 38 #[.val (.long y34), .second] [(.int (8 : Int32)), (.long y34), (.long y34)])) _
    refine XT.lushr X0.here hx rfl (hb hby d3_38) rfl ?_
    show Steps p.tables e below (s₁.setTop (mkF m 39 #[.val (.long y34), .second] [(.long (XT.ushrL y34 (8 : Int32))), (.long y34)])) _
    refine XS.ladd X0.here hx rfl (hb hby d3_39) rfl ?_
    show Steps p.tables e below (s₁.setTop (mkF m 40 #[.val (.long y34), .second] [(.long (y34 + (XT.ushrL y34 (8 : Int32))))])) _
    refine XS.lstoreN X0.here hx rfl (hb hby d3_40) rfl (l' := #[.val (.long (y34 + (XT.ushrL y34 (8 : Int32)))), .second]) rfl ?_
    show Steps p.tables e below (s₁.setTop (mkF m 41 #[.val (.long (y34 + (XT.ushrL y34 (8 : Int32)))), .second] [])) _
    exact kt
  obtain ⟨y41, h_y41⟩ : ∃ z : Int64, z = (y34 + (XT.ushrL y34 (8 : Int32))) := ⟨_, rfl⟩
  rw [← h_y41] at pre4
  have pre5 : ∀ tq, Steps p.tables e below (s₁.setTop (mkF m 48 #[.val (.long (y41 + (XT.ushrL y41 (16 : Int32)))), .second] [])) tq → Steps p.tables e below (s₁.setTop (entryFrame m #[(.long px)] 2)) tq := by
    intro tq kt
    refine pre4 tq ?_
    show Steps p.tables e below (s₁.setTop (mkF m 41 #[.val (.long y41), .second] [])) _
    refine XS.lloadN X0.here hx rfl (hb hby d3_41) rfl ?_
    show Steps p.tables e below (s₁.setTop (mkF m 42 #[.val (.long y41), .second] [(.long y41)])) _
    refine XS.lloadN X0.here hx rfl (hb hby d3_42) rfl ?_
    show Steps p.tables e below (s₁.setTop (mkF m 43 #[.val (.long y41), .second] [(.long y41), (.long y41)])) _
    refine XS.bipush X0.here hx rfl (hb hby d3_43) ?_
    show Steps p.tables e below (s₁.setTop (mkF m 45 #[.val (.long y41), .second] [(.int (16 : Int32)), (.long y41), (.long y41)])) _
    refine XT.lushr X0.here hx rfl (hb hby d3_45) rfl ?_
    show Steps p.tables e below (s₁.setTop (mkF m 46 #[.val (.long y41), .second] [(.long (XT.ushrL y41 (16 : Int32))), (.long y41)])) _
    refine XS.ladd X0.here hx rfl (hb hby d3_46) rfl ?_
    show Steps p.tables e below (s₁.setTop (mkF m 47 #[.val (.long y41), .second] [(.long (y41 + (XT.ushrL y41 (16 : Int32))))])) _
    refine XS.lstoreN X0.here hx rfl (hb hby d3_47) rfl (l' := #[.val (.long (y41 + (XT.ushrL y41 (16 : Int32)))), .second]) rfl ?_
    show Steps p.tables e below (s₁.setTop (mkF m 48 #[.val (.long (y41 + (XT.ushrL y41 (16 : Int32)))), .second] [])) _
    exact kt
  obtain ⟨y48, h_y48⟩ : ∃ z : Int64, z = (y41 + (XT.ushrL y41 (16 : Int32))) := ⟨_, rfl⟩
  rw [← h_y48] at pre5
  have pre6 : ∀ tq, Steps p.tables e below (s₁.setTop (mkF m 55 #[.val (.long (y48 + (XT.ushrL y48 (32 : Int32)))), .second] [])) tq → Steps p.tables e below (s₁.setTop (entryFrame m #[(.long px)] 2)) tq := by
    intro tq kt
    refine pre5 tq ?_
    show Steps p.tables e below (s₁.setTop (mkF m 48 #[.val (.long y48), .second] [])) _
    refine XS.lloadN X0.here hx rfl (hb hby d3_48) rfl ?_
    show Steps p.tables e below (s₁.setTop (mkF m 49 #[.val (.long y48), .second] [(.long y48)])) _
    refine XS.lloadN X0.here hx rfl (hb hby d3_49) rfl ?_
    show Steps p.tables e below (s₁.setTop (mkF m 50 #[.val (.long y48), .second] [(.long y48), (.long y48)])) _
    refine XS.bipush X0.here hx rfl (hb hby d3_50) ?_
    show Steps p.tables e below (s₁.setTop (mkF m 52 #[.val (.long y48), .second] [(.int (32 : Int32)), (.long y48), (.long y48)])) _
    refine XT.lushr X0.here hx rfl (hb hby d3_52) rfl ?_
    show Steps p.tables e below (s₁.setTop (mkF m 53 #[.val (.long y48), .second] [(.long (XT.ushrL y48 (32 : Int32))), (.long y48)])) _
    refine XS.ladd X0.here hx rfl (hb hby d3_53) rfl ?_
    show Steps p.tables e below (s₁.setTop (mkF m 54 #[.val (.long y48), .second] [(.long (y48 + (XT.ushrL y48 (32 : Int32))))])) _
    refine XS.lstoreN X0.here hx rfl (hb hby d3_54) rfl (l' := #[.val (.long (y48 + (XT.ushrL y48 (32 : Int32)))), .second]) rfl ?_
    show Steps p.tables e below (s₁.setTop (mkF m 55 #[.val (.long (y48 + (XT.ushrL y48 (32 : Int32)))), .second] [])) _
    exact kt
  obtain ⟨y55, h_y55⟩ : ∃ z : Int64, z = (y48 + (XT.ushrL y48 (32 : Int32))) := ⟨_, rfl⟩
  rw [← h_y55] at pre6
  obtain ⟨fs, hr, hrun, hended, hW, hsame⟩ := X0.leave (v := some (.int ((y55.toInt32) &&& (127 : Int32)))) (fun h => by rw [Bd.returns] at h; cases h)
  refine ⟨_, _, pre6 _ ?_, hrun, hended, _, _, rfl, ?_, ⟨_, rfl⟩, hW, hsame.mono (by decide) (by decide)⟩
  · show Steps p.tables e below (s₁.setTop (mkF m 55 #[.val (.long y55), .second] [])) _
    refine XS.lloadN X0.here hx rfl (hb hby d3_55) rfl ?_
    show Steps p.tables e below (s₁.setTop (mkF m 56 #[.val (.long y55), .second] [(.long y55)])) _
    refine XS.l2i X0.here hx rfl (hb hby d3_56) rfl ?_
    show Steps p.tables e below (s₁.setTop (mkF m 57 #[.val (.long y55), .second] [(.int (y55.toInt32))])) _
    refine XS.bipush X0.here hx rfl (hb hby d3_57) ?_
    show Steps p.tables e below (s₁.setTop (mkF m 59 #[.val (.long y55), .second] [(.int (127 : Int32)), (.int (y55.toInt32))])) _
    refine XS.iand X0.here hx rfl (hb hby d3_59) rfl ?_
    show Steps p.tables e below (s₁.setTop (mkF m 60 #[.val (.long y55), .second] [(.int ((y55.toInt32) &&& (127 : Int32)))])) _
    exact retI X0 hx Bd.returns (hb hby d3_60) hr
  · show Q3 Z px h0 n0 _ s₁.heap _
    rw [e0]
    exact ⟨_, rfl, N0, rfl⟩
theorem d4_0 : decode method_3_code 0 = .ok (.lload_n 0, 1) := by decide +kernel
theorem d4_1 : decode method_3_code 1 = .ok (.lstore_n 2, 1) := by decide +kernel
theorem d4_2 : decode method_3_code 2 = .ok (.lload_n 2, 1) := by decide +kernel
theorem d4_3 : decode method_3_code 3 = .ok (.lload_n 2, 1) := by decide +kernel
theorem d4_4 : decode method_3_code 4 = .ok (.iconst 1, 1) := by decide +kernel
theorem d4_5 : decode method_3_code 5 = .ok (.lushr, 1) := by decide +kernel
theorem d4_6 : decode method_3_code 6 = .ok (.ldc2_w 41, 3) := by decide +kernel
theorem d4_9 : decode method_3_code 9 = .ok (.land, 1) := by decide +kernel
theorem d4_10 : decode method_3_code 10 = .ok (.lsub, 1) := by decide +kernel
theorem d4_11 : decode method_3_code 11 = .ok (.lstore_n 2, 1) := by decide +kernel
theorem d4_12 : decode method_3_code 12 = .ok (.lload_n 2, 1) := by decide +kernel
theorem d4_13 : decode method_3_code 13 = .ok (.ldc2_w 43, 3) := by decide +kernel
theorem d4_16 : decode method_3_code 16 = .ok (.land, 1) := by decide +kernel
theorem d4_17 : decode method_3_code 17 = .ok (.lload_n 2, 1) := by decide +kernel
theorem d4_18 : decode method_3_code 18 = .ok (.iconst 2, 1) := by decide +kernel
theorem d4_19 : decode method_3_code 19 = .ok (.lushr, 1) := by decide +kernel
theorem d4_20 : decode method_3_code 20 = .ok (.ldc2_w 43, 3) := by decide +kernel
theorem d4_23 : decode method_3_code 23 = .ok (.land, 1) := by decide +kernel
theorem d4_24 : decode method_3_code 24 = .ok (.ladd, 1) := by decide +kernel
theorem d4_25 : decode method_3_code 25 = .ok (.lstore_n 2, 1) := by decide +kernel
theorem d4_26 : decode method_3_code 26 = .ok (.lload_n 2, 1) := by decide +kernel
theorem d4_27 : decode method_3_code 27 = .ok (.lload_n 2, 1) := by decide +kernel
theorem d4_28 : decode method_3_code 28 = .ok (.iconst 4, 1) := by decide +kernel
theorem d4_29 : decode method_3_code 29 = .ok (.lushr, 1) := by decide +kernel
theorem d4_30 : decode method_3_code 30 = .ok (.ladd, 1) := by decide +kernel
theorem d4_31 : decode method_3_code 31 = .ok (.ldc2_w 45, 3) := by decide +kernel
theorem d4_34 : decode method_3_code 34 = .ok (.land, 1) := by decide +kernel
theorem d4_35 : decode method_3_code 35 = .ok (.lstore_n 2, 1) := by decide +kernel
theorem d4_36 : decode method_3_code 36 = .ok (.lload_n 2, 1) := by decide +kernel
theorem d4_37 : decode method_3_code 37 = .ok (.ldc2_w 47, 3) := by decide +kernel
theorem d4_40 : decode method_3_code 40 = .ok (.lmul, 1) := by decide +kernel
theorem d4_41 : decode method_3_code 41 = .ok (.bipush 56, 2) := by decide +kernel
theorem d4_43 : decode method_3_code 43 = .ok (.lushr, 1) := by decide +kernel
theorem d4_44 : decode method_3_code 44 = .ok (.l2i, 1) := by decide +kernel
theorem d4_45 : decode method_3_code 45 = .ok (.ireturn, 1) := by decide +kernel
theorem pn_2 : plainName "com/example/bitgrove/bitgrove/HeapBitmapContainerAddPinLaw" = true := by first | (simp [plainName, overriddenIn]; done) | decide +kernel
theorem ef_rm4 (m : MethodId) (x0 : Int64) : entryFrame m #[(.long x0)] 4 = mkF m 0 #[.val (.long x0), .second, .unset, .unset] [] := by first | (simp [entryFrame, mkF, argsToLocals, Value.category]; done) | rfl
def Q4 (Z : State) (px : Int64) (h0 : Heap) (n0 : Nat) (v : Option Value) (h : Heap) (L : List Loc) : Prop := ∃ z : Int32, v = some (.int z) ∧ Fr n0 L ∧ h = h0
set_option maxRecDepth 65536 in
set_option maxHeartbeats 40000000 in
theorem rm4 (l : Launch) (Z : State) (a0 : Array Value) (hw : ∀ d ∈ tables_1, d.before a0 Z = true) (ws : List Jvm.Cond) (px : Int64) (h0 : Heap) (n0 : Nat) (Z0 : n0 ≤ h0.size) :
    MetFree l (⟨"com/example/bitgrove/bitgrove/HeapBitmapContainerAddPinLaw", "pop", "(J)I"⟩ : MethodName) (head1 (Jvm.Cond.code (⟨"com/example/bitgrove/bitgrove/HeapBitmapContainerAddPinLaw", "pop", "(J)I"⟩ : MethodName) method_3_code 4 (some .int) :: ws) ({ frames := 0, cells := 0, slots := 0, locals := 0 } : Room)) (fun a U => a = #[(.long px)] ∧ Z.Warmed39 U.vm ∧ U.heap = h0) (fun _ _ _ _ _ => True) (fun _ U o U' => ∃ v L, o = .returned v ∧ Q4 Z px h0 n0 v U'.heap L ∧ FrameEnd U o U' L ({ frames := 0, cells := 0, slots := 0, locals := 0 } : Room).cells ({ frames := 0, cells := 0, slots := 0, locals := 0 } : Room).slots) := by
  refine MetFree.of_bodySF (plainFor_of_name pn_2) hisR ?_
  intro p e s m args below meth c s₁ Bd hml0 hP hK
  obtain ⟨rfl, hZ, hh⟩ := hP
  have hx := Bd.exec
  have hby := Bd.bytes
  have hml : c.maxLocals = 4 := hml0
  have hown : s.vm.findClass "com/example/bitgrove/bitgrove/HeapBitmapContainerAddPinLaw" = some m.cls := findClass_of_methodNamed Bd.named
  have hnm := (name_of_methodNamed Bd.named Bd.method).1
  have X0 : Stand p l e ({ frames := 0, cells := 0, slots := 0, locals := 0 } : Room) s m #[(.long px)] below meth c s₁ [] 0 0 := Stand.of_body Bd
  have e0 : s₁.heap = h0 := by rw [← hh, Bd.state]; rfl
  have N0 := Fr.nil n0
  have pre0 : ∀ t, Steps p.tables e below (s₁.setTop (mkF m 0 #[.val (.long px), .second, .unset, .unset] [])) t → Steps p.tables e below (s₁.setTop (entryFrame m #[(.long px)] 4)) t := fun t k => castTop (ef_rm4 m px) k
  have pre1 : ∀ tq, Steps p.tables e below (s₁.setTop (mkF m 12 #[.val (.long px), .second, .val (.long (px - ((XT.ushrL px (1 : Int32)) &&& (6148914691236517205 : Int64)))), .second] [])) tq → Steps p.tables e below (s₁.setTop (entryFrame m #[(.long px)] 4)) tq := by
    intro tq kt
    refine pre0 tq ?_
    show Steps p.tables e below (s₁.setTop (mkF m 0 #[.val (.long px), .second, .unset, .unset] [])) _
    refine XS.lloadN X0.here hx rfl (hb hby d4_0) rfl ?_
    show Steps p.tables e below (s₁.setTop (mkF m 1 #[.val (.long px), .second, .unset, .unset] [(.long px)])) _
    refine XS.lstoreN X0.here hx rfl (hb hby d4_1) rfl (l' := #[.val (.long px), .second, .val (.long px), .second]) rfl ?_
    show Steps p.tables e below (s₁.setTop (mkF m 2 #[.val (.long px), .second, .val (.long px), .second] [])) _
    refine XS.lloadN X0.here hx rfl (hb hby d4_2) rfl ?_
    show Steps p.tables e below (s₁.setTop (mkF m 3 #[.val (.long px), .second, .val (.long px), .second] [(.long px)])) _
    refine XS.lloadN X0.here hx rfl (hb hby d4_3) rfl ?_
    show Steps p.tables e below (s₁.setTop (mkF m 4 #[.val (.long px), .second, .val (.long px), .second] [(.long px), (.long px)])) _
    refine XS.iconst X0.here hx rfl (hb hby d4_4) ?_
    show Steps p.tables e below (s₁.setTop (mkF m 5 #[.val (.long px), .second, .val (.long px), .second] [(.int (1 : Int32)), (.long px), (.long px)])) _
    refine XT.lushr X0.here hx rfl (hb hby d4_5) rfl ?_
    show Steps p.tables e below (s₁.setTop (mkF m 6 #[.val (.long px), .second, .val (.long px), .second] [(.long (XT.ushrL px (1 : Int32))), (.long px)])) _
    refine X0.ldc2Long hx hown (mvT hZ (hw _ (List.mem_of_getElem? (i := 21) rfl))) (g := (mkF m 6 #[.val (.long px), .second, .val (.long px), .second] [(.long (XT.ushrL px (1 : Int32))), (.long px)])) rfl (hb hby d4_6) _ ?_
    show Steps p.tables e below (s₁.setTop (mkF m 9 #[.val (.long px), .second, .val (.long px), .second] [(.long (6148914691236517205 : Int64)), (.long (XT.ushrL px (1 : Int32))), (.long px)])) _
    refine XS.land X0.here hx rfl (hb hby d4_9) rfl ?_
    show Steps p.tables e below (s₁.setTop (mkF m 10 #[.val (.long px), .second, .val (.long px), .second] [(.long ((XT.ushrL px (1 : Int32)) &&& (6148914691236517205 : Int64))), (.long px)])) _
    refine XS.lsub X0.here hx rfl (hb hby d4_10) rfl ?_
    show Steps p.tables e below (s₁.setTop (mkF m 11 #[.val (.long px), .second, .val (.long px), .second] [(.long (px - ((XT.ushrL px (1 : Int32)) &&& (6148914691236517205 : Int64))))])) _
    refine XS.lstoreN X0.here hx rfl (hb hby d4_11) rfl (l' := #[.val (.long px), .second, .val (.long (px - ((XT.ushrL px (1 : Int32)) &&& (6148914691236517205 : Int64)))), .second]) rfl ?_
    show Steps p.tables e below (s₁.setTop (mkF m 12 #[.val (.long px), .second, .val (.long (px - ((XT.ushrL px (1 : Int32)) &&& (6148914691236517205 : Int64)))), .second] [])) _
    exact kt
  obtain ⟨y12, h_y12⟩ : ∃ z : Int64, z = (px - ((XT.ushrL px (1 : Int32)) &&& (6148914691236517205 : Int64))) := ⟨_, rfl⟩
  rw [← h_y12] at pre1
  have pre2 : ∀ tq, Steps p.tables e below (s₁.setTop (mkF m 26 #[.val (.long px), .second, .val (.long ((y12 &&& (3689348814741910323 : Int64)) + ((XT.ushrL y12 (2 : Int32)) &&& (3689348814741910323 : Int64)))), .second] [])) tq → Steps p.tables e below (s₁.setTop (entryFrame m #[(.long px)] 4)) tq := by
    intro tq kt
    refine pre1 tq ?_
    show Steps p.tables e below (s₁.setTop (mkF m 12 #[.val (.long px), .second, .val (.long y12), .second] [])) _
    refine XS.lloadN X0.here hx rfl (hb hby d4_12) rfl ?_
    show Steps p.tables e below (s₁.setTop (mkF m 13 #[.val (.long px), .second, .val (.long y12), .second] [(.long y12)])) _
    refine X0.ldc2Long hx hown (mvT hZ (hw _ (List.mem_of_getElem? (i := 22) rfl))) (g := (mkF m 13 #[.val (.long px), .second, .val (.long y12), .second] [(.long y12)])) rfl (hb hby d4_13) _ ?_
    show Steps p.tables e below (s₁.setTop (mkF m 16 #[.val (.long px), .second, .val (.long y12), .second] [(.long (3689348814741910323 : Int64)), (.long y12)])) _
    refine XS.land X0.here hx rfl (hb hby d4_16) rfl ?_
    show Steps p.tables e below (s₁.setTop (mkF m 17 #[.val (.long px), .second, .val (.long y12), .second] [(.long (y12 &&& (3689348814741910323 : Int64)))])) _
    refine XS.lloadN X0.here hx rfl (hb hby d4_17) rfl ?_
    show Steps p.tables e below (s₁.setTop (mkF m 18 #[.val (.long px), .second, .val (.long y12), .second] [(.long y12), (.long (y12 &&& (3689348814741910323 : Int64)))])) _
    refine XS.iconst X0.here hx rfl (hb hby d4_18) ?_
    show Steps p.tables e below (s₁.setTop (mkF m 19 #[.val (.long px), .second, .val (.long y12), .second] [(.int (2 : Int32)), (.long y12), (.long (y12 &&& (3689348814741910323 : Int64)))])) _
    refine XT.lushr X0.here hx rfl (hb hby d4_19) rfl ?_
    show Steps p.tables e below (s₁.setTop (mkF m 20 #[.val (.long px), .second, .val (.long y12), .second] [(.long (XT.ushrL y12 (2 : Int32))), (.long (y12 &&& (3689348814741910323 : Int64)))])) _
    refine X0.ldc2Long hx hown (mvT hZ (hw _ (List.mem_of_getElem? (i := 22) rfl))) (g := (mkF m 20 #[.val (.long px), .second, .val (.long y12), .second] [(.long (XT.ushrL y12 (2 : Int32))), (.long (y12 &&& (3689348814741910323 : Int64)))])) rfl (hb hby d4_20) _ ?_
    show Steps p.tables e below (s₁.setTop (mkF m 23 #[.val (.long px), .second, .val (.long y12), .second] [(.long (3689348814741910323 : Int64)), (.long (XT.ushrL y12 (2 : Int32))), (.long (y12 &&& (3689348814741910323 : Int64)))])) _
    refine XS.land X0.here hx rfl (hb hby d4_23) rfl ?_
    show Steps p.tables e below (s₁.setTop (mkF m 24 #[.val (.long px), .second, .val (.long y12), .second] [(.long ((XT.ushrL y12 (2 : Int32)) &&& (3689348814741910323 : Int64))), (.long (y12 &&& (3689348814741910323 : Int64)))])) _
    refine XS.ladd X0.here hx rfl (hb hby d4_24) rfl ?_
    show Steps p.tables e below (s₁.setTop (mkF m 25 #[.val (.long px), .second, .val (.long y12), .second] [(.long ((y12 &&& (3689348814741910323 : Int64)) + ((XT.ushrL y12 (2 : Int32)) &&& (3689348814741910323 : Int64))))])) _
    refine XS.lstoreN X0.here hx rfl (hb hby d4_25) rfl (l' := #[.val (.long px), .second, .val (.long ((y12 &&& (3689348814741910323 : Int64)) + ((XT.ushrL y12 (2 : Int32)) &&& (3689348814741910323 : Int64)))), .second]) rfl ?_
    show Steps p.tables e below (s₁.setTop (mkF m 26 #[.val (.long px), .second, .val (.long ((y12 &&& (3689348814741910323 : Int64)) + ((XT.ushrL y12 (2 : Int32)) &&& (3689348814741910323 : Int64)))), .second] [])) _
    exact kt
  obtain ⟨y26, h_y26⟩ : ∃ z : Int64, z = ((y12 &&& (3689348814741910323 : Int64)) + ((XT.ushrL y12 (2 : Int32)) &&& (3689348814741910323 : Int64))) := ⟨_, rfl⟩
  rw [← h_y26] at pre2
  have pre3 : ∀ tq, Steps p.tables e below (s₁.setTop (mkF m 36 #[.val (.long px), .second, .val (.long ((y26 + (XT.ushrL y26 (4 : Int32))) &&& (1085102592571150095 : Int64))), .second] [])) tq → Steps p.tables e below (s₁.setTop (entryFrame m #[(.long px)] 4)) tq := by
    intro tq kt
    refine pre2 tq ?_
    show Steps p.tables e below (s₁.setTop (mkF m 26 #[.val (.long px), .second, .val (.long y26), .second] [])) _
    refine XS.lloadN X0.here hx rfl (hb hby d4_26) rfl ?_
    show Steps p.tables e below (s₁.setTop (mkF m 27 #[.val (.long px), .second, .val (.long y26), .second] [(.long y26)])) _
    refine XS.lloadN X0.here hx rfl (hb hby d4_27) rfl ?_
    show Steps p.tables e below (s₁.setTop (mkF m 28 #[.val (.long px), .second, .val (.long y26), .second] [(.long y26), (.long y26)])) _
    refine XS.iconst X0.here hx rfl (hb hby d4_28) ?_
    show Steps p.tables e below (s₁.setTop (mkF m 29 #[.val (.long px), .second, .val (.long y26), .second] [(.int (4 : Int32)), (.long y26), (.long y26)])) _
    refine XT.lushr X0.here hx rfl (hb hby d4_29) rfl ?_
    show Steps p.tables e below (s₁.setTop (mkF m 30 #[.val (.long px), .second, .val (.long y26), .second] [(.long (XT.ushrL y26 (4 : Int32))), (.long y26)])) _
    refine XS.ladd X0.here hx rfl (hb hby d4_30) rfl ?_
    show Steps p.tables e below (s₁.setTop (mkF m 31 #[.val (.long px), .second, .val (.long y26), .second] [(.long (y26 + (XT.ushrL y26 (4 : Int32))))])) _
    refine X0.ldc2Long hx hown (mvT hZ (hw _ (List.mem_of_getElem? (i := 23) rfl))) (g := (mkF m 31 #[.val (.long px), .second, .val (.long y26), .second] [(.long (y26 + (XT.ushrL y26 (4 : Int32))))])) rfl (hb hby d4_31) _ ?_
    show Steps p.tables e below (s₁.setTop (mkF m 34 #[.val (.long px), .second, .val (.long y26), .second] [(.long (1085102592571150095 : Int64)), (.long (y26 + (XT.ushrL y26 (4 : Int32))))])) _
    refine XS.land X0.here hx rfl (hb hby d4_34) rfl ?_
    show Steps p.tables e below (s₁.setTop (mkF m 35 #[.val (.long px), .second, .val (.long y26), .second] [(.long ((y26 + (XT.ushrL y26 (4 : Int32))) &&& (1085102592571150095 : Int64)))])) _
    refine XS.lstoreN X0.here hx rfl (hb hby d4_35) rfl (l' := #[.val (.long px), .second, .val (.long ((y26 + (XT.ushrL y26 (4 : Int32))) &&& (1085102592571150095 : Int64))), .second]) rfl ?_
    show Steps p.tables e below (s₁.setTop (mkF m 36 #[.val (.long px), .second, .val (.long ((y26 + (XT.ushrL y26 (4 : Int32))) &&& (1085102592571150095 : Int64))), .second] [])) _
    exact kt
  obtain ⟨y36, h_y36⟩ : ∃ z : Int64, z = ((y26 + (XT.ushrL y26 (4 : Int32))) &&& (1085102592571150095 : Int64)) := ⟨_, rfl⟩
  rw [← h_y36] at pre3
  obtain ⟨fs, hr, hrun, hended, hW, hsame⟩ := X0.leave (v := some (.int ((XT.ushrL (y36 * (72340172838076673 : Int64)) (56 : Int32)).toInt32))) (fun h => by rw [Bd.returns] at h; cases h)
  refine ⟨_, _, pre3 _ ?_, hrun, hended, _, _, rfl, ?_, ⟨_, rfl⟩, hW, hsame.mono (by decide) (by decide)⟩
  · show Steps p.tables e below (s₁.setTop (mkF m 36 #[.val (.long px), .second, .val (.long y36), .second] [])) _
    refine XS.lloadN X0.here hx rfl (hb hby d4_36) rfl ?_
    show Steps p.tables e below (s₁.setTop (mkF m 37 #[.val (.long px), .second, .val (.long y36), .second] [(.long y36)])) _
    refine X0.ldc2Long hx hown (mvT hZ (hw _ (List.mem_of_getElem? (i := 24) rfl))) (g := (mkF m 37 #[.val (.long px), .second, .val (.long y36), .second] [(.long y36)])) rfl (hb hby d4_37) _ ?_
    show Steps p.tables e below (s₁.setTop (mkF m 40 #[.val (.long px), .second, .val (.long y36), .second] [(.long (72340172838076673 : Int64)), (.long y36)])) _
    refine XS.lmul X0.here hx rfl (hb hby d4_40) rfl ?_
    show Steps p.tables e below (s₁.setTop (mkF m 41 #[.val (.long px), .second, .val (.long y36), .second] [(.long (y36 * (72340172838076673 : Int64)))])) _
    refine XS.bipush X0.here hx rfl (hb hby d4_41) ?_
    show Steps p.tables e below (s₁.setTop (mkF m 43 #[.val (.long px), .second, .val (.long y36), .second] [(.int (56 : Int32)), (.long (y36 * (72340172838076673 : Int64)))])) _
    refine XT.lushr X0.here hx rfl (hb hby d4_43) rfl ?_
    show Steps p.tables e below (s₁.setTop (mkF m 44 #[.val (.long px), .second, .val (.long y36), .second] [(.long (XT.ushrL (y36 * (72340172838076673 : Int64)) (56 : Int32)))])) _
    refine XS.l2i X0.here hx rfl (hb hby d4_44) rfl ?_
    show Steps p.tables e below (s₁.setTop (mkF m 45 #[.val (.long px), .second, .val (.long y36), .second] [(.int ((XT.ushrL (y36 * (72340172838076673 : Int64)) (56 : Int32)).toInt32))])) _
    exact retI X0 hx Bd.returns (hb hby d4_45) hr
  · show Q4 Z px h0 n0 _ s₁.heap _
    rw [e0]
    exact ⟨_, rfl, N0, rfl⟩
theorem d1_0 : decode prog_7_method_22_code 0 = .ok (.iconst 0, 1) := by decide +kernel
theorem d1_1 : decode prog_7_method_22_code 1 = .ok (.istore_n 3, 1) := by decide +kernel
theorem d1_2 : decode prog_7_method_22_code 2 = .ok (.iload_n 1, 1) := by decide +kernel
theorem d1_3 : decode prog_7_method_22_code 3 = .ok (.bipush 6, 2) := by decide +kernel
theorem d1_5 : decode prog_7_method_22_code 5 = .ok (.iushr, 1) := by decide +kernel
theorem d1_6 : decode prog_7_method_22_code 6 = .ok (.istore 4, 2) := by decide +kernel
theorem d1_8 : decode prog_7_method_22_code 8 = .ok (.iload 4, 2) := by decide +kernel
theorem d1_10 : decode prog_7_method_22_code 10 = .ok (.iload_n 2, 1) := by decide +kernel
theorem d1_11 : decode prog_7_method_22_code 11 = .ok (.iconst 1, 1) := by decide +kernel
theorem d1_12 : decode prog_7_method_22_code 12 = .ok (.isub, 1) := by decide +kernel
theorem d1_13 : decode prog_7_method_22_code 13 = .ok (.bipush 6, 2) := by decide +kernel
theorem d1_15 : decode prog_7_method_22_code 15 = .ok (.iushr, 1) := by decide +kernel
theorem d1_16 : decode prog_7_method_22_code 16 = .ok (.if_icmp .gt 45, 3) := by decide +kernel
theorem d1_19 : decode prog_7_method_22_code 19 = .ok (.aload_n 0, 1) := by decide +kernel
theorem d1_20 : decode prog_7_method_22_code 20 = .ok (.iload 4, 2) := by decide +kernel
theorem d1_22 : decode prog_7_method_22_code 22 = .ok (.laload, 1) := by decide +kernel
theorem d1_23 : decode prog_7_method_22_code 23 = .ok (.lstore 5, 2) := by decide +kernel
theorem d1_25 : decode prog_7_method_22_code 25 = .ok (.aload_n 0, 1) := by decide +kernel
theorem d1_26 : decode prog_7_method_22_code 26 = .ok (.iload 4, 2) := by decide +kernel
theorem d1_28 : decode prog_7_method_22_code 28 = .ok (.lload 5, 2) := by decide +kernel
theorem d1_30 : decode prog_7_method_22_code 30 = .ok (.iload 4, 2) := by decide +kernel
theorem d1_32 : decode prog_7_method_22_code 32 = .ok (.iload_n 1, 1) := by decide +kernel
theorem d1_33 : decode prog_7_method_22_code 33 = .ok (.iload_n 2, 1) := by decide +kernel
theorem d1_34 : decode prog_7_method_22_code 34 = .ok (.invokestatic 15, 3) := by decide +kernel
theorem pd_0 : parseMethodDescriptor "(III)J" = some ⟨[.int, .int, .int], some .long⟩ := by decide +kernel
theorem d1_37 : decode prog_7_method_22_code 37 = .ok (.lor, 1) := by decide +kernel
theorem d1_38 : decode prog_7_method_22_code 38 = .ok (.lastore, 1) := by decide +kernel
theorem d1_39 : decode prog_7_method_22_code 39 = .ok (.iload_n 3, 1) := by decide +kernel
theorem d1_40 : decode prog_7_method_22_code 40 = .ok (.aload_n 0, 1) := by decide +kernel
theorem d1_41 : decode prog_7_method_22_code 41 = .ok (.iload 4, 2) := by decide +kernel
theorem d1_43 : decode prog_7_method_22_code 43 = .ok (.laload, 1) := by decide +kernel
theorem d1_44 : decode prog_7_method_22_code 44 = .ok (.invokestatic 19, 3) := by decide +kernel
theorem pd_1 : parseMethodDescriptor "(J)I" = some ⟨[.long], some .int⟩ := by decide +kernel
theorem d1_47 : decode prog_7_method_22_code 47 = .ok (.lload 5, 2) := by decide +kernel
theorem d1_49 : decode prog_7_method_22_code 49 = .ok (.invokestatic 19, 3) := by decide +kernel
theorem d1_52 : decode prog_7_method_22_code 52 = .ok (.isub, 1) := by decide +kernel
theorem d1_53 : decode prog_7_method_22_code 53 = .ok (.iadd, 1) := by decide +kernel
theorem d1_54 : decode prog_7_method_22_code 54 = .ok (.istore_n 3, 1) := by decide +kernel
theorem d1_55 : decode prog_7_method_22_code 55 = .ok (.iinc 4 1, 3) := by decide +kernel
theorem d1_58 : decode prog_7_method_22_code 58 = .ok (.goto (-50), 3) := by decide +kernel
theorem d1_61 : decode prog_7_method_22_code 61 = .ok (.iload_n 3, 1) := by decide +kernel
theorem d1_62 : decode prog_7_method_22_code 62 = .ok (.ireturn, 1) := by decide +kernel
theorem ef_rm1 (m : MethodId) (x0 : Addr) (x1 : Int32) (x2 : Int32) : entryFrame m #[(.ref x0), (.int x1), (.int x2)] 7 = mkF m 0 #[.val (.ref x0), .val (.int x1), .val (.int x2), .unset, .unset, .unset, .unset] [] := by first | (simp [entryFrame, mkF, argsToLocals, Value.category]; done) | rfl
def Q1 (Z : State) (ar : Addr) (pb : Int32) (pe : Int32) (f0 : Nat → Int64) (lo : Int32) (hi : Int32) (h0 : Heap) (n0 : Nat) (v : Option Value) (h : Heap) (L : List Loc) : Prop := ∃ (z : Int32) (f : Nat → Int64), v = some (.int z) ∧ Fr n0 L ∧ Keep h0 h [ar] ∧ LA Z h ar f ∧ ∀ k : Nat, ((k : Int) < lo.toInt ∨ hi.toInt < k) → f k = f0 k
set_option maxRecDepth 65536 in
set_option maxHeartbeats 40000000 in
theorem rm1 (l : Launch) (Z : State) (a0 : Array Value) (hw : ∀ d ∈ tables_1, d.before a0 Z = true) (ws : List Jvm.Cond) (ar : Addr) (pb : Int32) (pe : Int32) (f0 : Nat → Int64) (lo : Int32) (hi : Int32) (h0 : Heap) (n0 : Nat) (Z0 : n0 ≤ h0.size) (V0 : LA Z h0 ar f0) (g_ar : n0 ≤ ar) (hlo : ((pb.toUInt32 >>> ((6 : Int32) &&& 31).toUInt32).toInt32) = lo) (hhi : (((pe - (1 : Int32)).toUInt32 >>> ((6 : Int32) &&& 31).toUInt32).toInt32) = hi) (r1 : 0 ≤ lo.toInt) (r2 : lo.toInt ≤ hi.toInt) (r3 : hi.toInt < 1024) :
    MetFree l (⟨"com/example/bitgrove/bitgrove/BitmapContainer", "setRange", "([JII)I"⟩ : MethodName) (head1 (Jvm.Cond.code (⟨"com/example/bitgrove/bitgrove/BitmapContainer", "setRange", "([JII)I"⟩ : MethodName) prog_7_method_22_code 7 (some .int) :: ws) ({ frames := 1, cells := 0, slots := 0, locals := 20 } : Room)) (fun a U => a = #[(.ref ar), (.int pb), (.int pe)] ∧ Z.Warmed39 U.vm ∧ U.heap = h0) (fun _ _ _ _ _ => True) (fun _ U o U' => ∃ v L, o = .returned v ∧ Q1 Z ar pb pe f0 lo hi h0 n0 v U'.heap L ∧ FrameEnd U o U' L ({ frames := 1, cells := 0, slots := 0, locals := 20 } : Room).cells ({ frames := 1, cells := 0, slots := 0, locals := 20 } : Room).slots) := by
  refine MetFree.of_bodySF (plainFor_of_name pn_0) hisR ?_
  intro p e s m args below meth c s₁ Bd hml0 hP hK
  obtain ⟨rfl, hZ, hh⟩ := hP
  have hx := Bd.exec
  have hby := Bd.bytes
  have hml : c.maxLocals = 7 := hml0
  have hown : s.vm.findClass "com/example/bitgrove/bitgrove/BitmapContainer" = some m.cls := findClass_of_methodNamed Bd.named
  have hnm := (name_of_methodNamed Bd.named Bd.method).1
  have X0 : Stand p l e ({ frames := 1, cells := 0, slots := 0, locals := 20 } : Room) s m #[(.ref ar), (.int pb), (.int pe)] below meth c s₁ [] 0 0 := Stand.of_body Bd
  have e0 : s₁.heap = h0 := by rw [← hh, Bd.state]; rfl
  have N0 := Fr.nil n0
  have pre0 : ∀ t, Steps p.tables e below (s₁.setTop (mkF m 0 #[.val (.ref ar), .val (.int pb), .val (.int pe), .unset, .unset, .unset, .unset] [])) t → Steps p.tables e below (s₁.setTop (entryFrame m #[(.ref ar), (.int pb), (.int pe)] 7)) t := fun t k => castTop (ef_rm1 m ar pb pe) k
  have pre1 : ∀ tq, Steps p.tables e below (s₁.setTop (mkF m 8 #[.val (.ref ar), .val (.int pb), .val (.int pe), .val (.int (0 : Int32)), .val (.int ((pb.toUInt32 >>> ((6 : Int32) &&& 31).toUInt32).toInt32)), .unset, .unset] [])) tq → Steps p.tables e below (s₁.setTop (entryFrame m #[(.ref ar), (.int pb), (.int pe)] 7)) tq := by
    intro tq kt
    refine pre0 tq ?_
    show Steps p.tables e below (s₁.setTop (mkF m 0 #[.val (.ref ar), .val (.int pb), .val (.int pe), .unset, .unset, .unset, .unset] [])) _
    refine XS.iconst X0.here hx rfl (hb hby d1_0) ?_
    show Steps p.tables e below (s₁.setTop (mkF m 1 #[.val (.ref ar), .val (.int pb), .val (.int pe), .unset, .unset, .unset, .unset] [(.int (0 : Int32))])) _
    refine XS.istoreN X0.here hx rfl (hb hby d1_1) rfl (l' := #[.val (.ref ar), .val (.int pb), .val (.int pe), .val (.int (0 : Int32)), .unset, .unset, .unset]) rfl ?_
    show Steps p.tables e below (s₁.setTop (mkF m 2 #[.val (.ref ar), .val (.int pb), .val (.int pe), .val (.int (0 : Int32)), .unset, .unset, .unset] [])) _
    refine XS.iloadN X0.here hx rfl (hb hby d1_2) rfl ?_
    show Steps p.tables e below (s₁.setTop (mkF m 3 #[.val (.ref ar), .val (.int pb), .val (.int pe), .val (.int (0 : Int32)), .unset, .unset, .unset] [(.int pb)])) _
    refine XS.bipush X0.here hx rfl (hb hby d1_3) ?_
    show Steps p.tables e below (s₁.setTop (mkF m 5 #[.val (.ref ar), .val (.int pb), .val (.int pe), .val (.int (0 : Int32)), .unset, .unset, .unset] [(.int (6 : Int32)), (.int pb)])) _
    refine XS.iushr X0.here hx rfl (hb hby d1_5) rfl ?_
    show Steps p.tables e below (s₁.setTop (mkF m 6 #[.val (.ref ar), .val (.int pb), .val (.int pe), .val (.int (0 : Int32)), .unset, .unset, .unset] [(.int ((pb.toUInt32 >>> ((6 : Int32) &&& 31).toUInt32).toInt32))])) _
    refine XS.istore X0.here hx rfl (hb hby d1_6) rfl (l' := #[.val (.ref ar), .val (.int pb), .val (.int pe), .val (.int (0 : Int32)), .val (.int ((pb.toUInt32 >>> ((6 : Int32) &&& 31).toUInt32).toInt32)), .unset, .unset]) rfl ?_
    show Steps p.tables e below (s₁.setTop (mkF m 8 #[.val (.ref ar), .val (.int pb), .val (.int pe), .val (.int (0 : Int32)), .val (.int ((pb.toUInt32 >>> ((6 : Int32) &&& 31).toUInt32).toInt32)), .unset, .unset] [])) _
    exact kt
  have loop : ∀ (n : Nat) (T0 : State) (lc : List Loc) (hp : Heap) (cn t : Int32) (s5 s6 : Slot) (f : Nat → Int64), Stand p l e ({ frames := 1, cells := 0, slots := 0, locals := 20 } : Room) s m #[(.ref ar), (.int pb), (.int pe)] below meth c T0 lc 0 0 → T0.heap = hp → Fr n0 lc → Keep h0 hp [ar] → LA Z hp ar f → (∀ k : Nat, ((k : Int) < lo.toInt ∨ hi.toInt < k) → f k = f0 k) → lo.toInt ≤ t.toInt → t.toInt + n = hi.toInt + 1 → (∀ x : Int64, storeLocals #[.val (.ref ar), .val (.int pb), .val (.int pe), .val (.int cn), .val (.int t), s5, s6] 5 (.long x) = some #[.val (.ref ar), .val (.int pb), .val (.int pe), .val (.int cn), .val (.int t), .val (.long x), .second]) →
      ∃ (T1 : State) (lc1 : List Loc) (cn1 t1 : Int32) (s5' s6' : Slot) (f1 : Nat → Int64), Stand p l e ({ frames := 1, cells := 0, slots := 0, locals := 20 } : Room) s m #[(.ref ar), (.int pb), (.int pe)] below meth c T1 lc1 0 0 ∧ Fr n0 lc1 ∧ Keep h0 T1.heap [ar] ∧ LA Z T1.heap ar f1 ∧ (∀ k : Nat, ((k : Int) < lo.toInt ∨ hi.toInt < k) → f1 k = f0 k) ∧ ∀ tg, Steps p.tables e below (T1.setTop (mkF m 61 #[.val (.ref ar), .val (.int pb), .val (.int pe), .val (.int cn1), .val (.int t1), s5', s6'] [])) tg → Steps p.tables e below (T0.setTop (mkF m 8 #[.val (.ref ar), .val (.int pb), .val (.int pe), .val (.int cn), .val (.int t), s5, s6] [])) tg := by
    intro n
    induction n with
    | zero =>
      intro T0 lc hp cn t s5 s6 f Xa ea Na Ka Va hf q1 q2 hs
      have preL : ∀ tg, Steps p.tables e below (T0.setTop (mkF m 8 #[.val (.ref ar), .val (.int pb), .val (.int pe), .val (.int cn), .val (.int t), s5, s6] [])) tg → Steps p.tables e below (T0.setTop (mkF m 8 #[.val (.ref ar), .val (.int pb), .val (.int pe), .val (.int cn), .val (.int t), s5, s6] [])) tg := fun _ k => k
      have pre2 : ∀ tq, Steps p.tables e below (T0.setTop (mkF m 61 #[.val (.ref ar), .val (.int pb), .val (.int pe), .val (.int cn), .val (.int t), s5, s6] [])) tq → Steps p.tables e below (T0.setTop (mkF m 8 #[.val (.ref ar), .val (.int pb), .val (.int pe), .val (.int cn), .val (.int t), s5, s6] [])) tq := by
        intro tq kt
        refine preL tq ?_
        show Steps p.tables e below (T0.setTop (mkF m 8 #[.val (.ref ar), .val (.int pb), .val (.int pe), .val (.int cn), .val (.int t), s5, s6] [])) _
        refine XS.iload Xa.here hx rfl (hb hby d1_8) rfl ?_
        show Steps p.tables e below (T0.setTop (mkF m 10 #[.val (.ref ar), .val (.int pb), .val (.int pe), .val (.int cn), .val (.int t), s5, s6] [(.int t)])) _
        refine XS.iloadN Xa.here hx rfl (hb hby d1_10) rfl ?_
        show Steps p.tables e below (T0.setTop (mkF m 11 #[.val (.ref ar), .val (.int pb), .val (.int pe), .val (.int cn), .val (.int t), s5, s6] [(.int pe), (.int t)])) _
        refine XS.iconst Xa.here hx rfl (hb hby d1_11) ?_
        show Steps p.tables e below (T0.setTop (mkF m 12 #[.val (.ref ar), .val (.int pb), .val (.int pe), .val (.int cn), .val (.int t), s5, s6] [(.int (1 : Int32)), (.int pe), (.int t)])) _
        refine XS.isub Xa.here hx rfl (hb hby d1_12) rfl ?_
        show Steps p.tables e below (T0.setTop (mkF m 13 #[.val (.ref ar), .val (.int pb), .val (.int pe), .val (.int cn), .val (.int t), s5, s6] [(.int (pe - (1 : Int32))), (.int t)])) _
        refine XS.bipush Xa.here hx rfl (hb hby d1_13) ?_
        show Steps p.tables e below (T0.setTop (mkF m 15 #[.val (.ref ar), .val (.int pb), .val (.int pe), .val (.int cn), .val (.int t), s5, s6] [(.int (6 : Int32)), (.int (pe - (1 : Int32))), (.int t)])) _
        refine XS.iushr Xa.here hx rfl (hb hby d1_15) rfl ?_
        show Steps p.tables e below (T0.setTop (mkF m 16 #[.val (.ref ar), .val (.int pb), .val (.int pe), .val (.int cn), .val (.int t), s5, s6] [(.int (((pe - (1 : Int32)).toUInt32 >>> ((6 : Int32) &&& 31).toUInt32).toInt32)), (.int t)])) _
        refine XS.icmpYes Xa.here hx rfl (pc0 := 16) (pc' := 61) rfl (hb hby d1_16) rfl (tlt (by rw [hhi, Int32.lt_iff_toInt_lt]; omega : (((pe - (1 : Int32)).toUInt32 >>> ((6 : Int32) &&& 31).toUInt32).toInt32) < t)).2.2.1 (by decide) (by decide) ?_
        show Steps p.tables e below (T0.setTop (mkF m 61 #[.val (.ref ar), .val (.int pb), .val (.int pe), .val (.int cn), .val (.int t), s5, s6] [])) _
        exact kt
      subst ea
      exact ⟨_, lc, cn, t, s5, s6, f, Xa, Na, Ka, Va, hf, pre2⟩
    | succ n ih =>
      intro T0 lc hp cn t s5 s6 f Xa ea Na Ka Va hf q1 q2 hs
      have preL : ∀ tg, Steps p.tables e below (T0.setTop (mkF m 8 #[.val (.ref ar), .val (.int pb), .val (.int pe), .val (.int cn), .val (.int t), s5, s6] [])) tg → Steps p.tables e below (T0.setTop (mkF m 8 #[.val (.ref ar), .val (.int pb), .val (.int pe), .val (.int cn), .val (.int t), s5, s6] [])) tg := fun _ k => k
      have ra : 0 ≤ t.toInt := by omega
      have rb : t.toInt < 1024 := by omega
      obtain ⟨cl3, Ar3, hz3, he3⟩ := (id Va)
      have hin3 := own_in hz3 (j := t) ra rb
      have hat3 : cl3.slots[t.toNatClampNeg]? = some (.long (f t.toNatClampNeg)) := he3 _ (by have := own_nat (j := t) ra; have := rb; omega)
      obtain ⟨_, _, ⟨T4, L4, k4, n4⟩, -, X4, ⟨Lc4, hQ4, l4, y4, z4⟩, st4⟩ := Jvm.LawKit.callS Xa hx (y := (⟨"com/example/bitgrove/bitgrove/BitmapContainer", "rangeMask", "(III)J"⟩ : MethodName)) hown (mvT hZ (hw _ (List.mem_of_getElem? (i := 6) rfl))) (mvT hZ (hw _ (List.mem_of_getElem? (i := 7) rfl))) (mvT hZ (hw _ (List.mem_of_getElem? (i := 4) rfl))) (mvT hZ (hw _ (List.mem_of_getElem? (i := 8) rfl))) (by decide) (backOf (W := 4) (rm2 l Z a0 hw [] t pb pe hp n0 (Nat.le_trans Z0 Ka.1) ) hZ (hw _ (List.mem_of_getElem? (i := 8) rfl)) (hw _ (List.mem_of_getElem? (i := 4) rfl)) (by decide) (by decide)) (g := (mkF m 34 #[.val (.ref ar), .val (.int pb), .val (.int pe), .val (.int cn), .val (.int t), .val (.long (f t.toNatClampNeg)), .second] [(.int pe), (.int pb), (.int t), (.long (f t.toNatClampNeg)), (.int t), (.ref ar)])) rfl (by rw [hml]; rfl) (argsL := [(.int t), (.int pb), (.int pe)]) (rest := [(.long (f t.toNatClampNeg)), (.int t), (.ref ar)]) (lenOf pd_0 rfl) rfl (by show 2 * 0 + _ ≤ _; exact Nat.le_of_eq rfl) (hb hby d1_34) (fun _ _ => ⟨rfl, ea, (by decide : 0 + 0 ≤ _), (by decide : 0 + 0 ≤ _)⟩)
      dsimp only [Pt.U, Pt.locs, Pt.cells, Pt.slots] at X4 l4 y4 z4 st4 hQ4
      subst l4 y4 z4
      obtain ⟨z4, rfl, N4q, e4⟩ := hQ4
      have N4 := Fr.app Na N4q
      have Vk5 := Va
      obtain ⟨cl5, Ar5, hz5, he5⟩ := Vk5
      have hin5 := own_in hz5 (j := t) ra rb
      obtain ⟨T6, h6, X6, e6, W6, st6⟩ := stJ X4 hx hZ e4 Ar5 (j := t) hin5 (g := (mkF m 38 #[.val (.ref ar), .val (.int pb), .val (.int pe), .val (.int cn), .val (.int t), .val (.long (f t.toNatClampNeg)), .second] [(.long ((f t.toNatClampNeg) ||| z4)), (.int t), (.ref ar)])) rfl rfl (hb hby d1_38)
      have Kc6 : Keep h0 h6 [ar] := Ka.wr W6 (Or.inl (List.mem_of_getElem? (i := 0) rfl))
      have N6 := Fr.snoc X6 N4 g_ar
      obtain ⟨f6, hf_f6⟩ : ∃ g : Nat → Int64, g = fun k => if k = t.toNatClampNeg then ((f t.toNatClampNeg) ||| z4) else f k := ⟨_, rfl⟩
      have V6 : LA Z h6 ar f6 := by rw [hf_f6]; exact LA.set (f := f) Va W6
      obtain ⟨cl7, Ar7, hz7, he7⟩ := (id V6)
      have hin7 := own_in hz7 (j := t) ra rb
      have hat7 : cl7.slots[t.toNatClampNeg]? = some (.long (f6 t.toNatClampNeg)) := he7 _ (by have := own_nat (j := t) ra; have := rb; omega)
      obtain ⟨_, _, ⟨T8, L8, k8, n8⟩, -, X8, ⟨Lc8, hQ8, l8, y8, z8⟩, st8⟩ := Jvm.LawKit.callS X6 hx (y := (⟨"java/lang/Long", "bitCount", "(J)I"⟩ : MethodName)) hown (mvT hZ (hw _ (List.mem_of_getElem? (i := 10) rfl))) (mvT hZ (hw _ (List.mem_of_getElem? (i := 11) rfl))) (mvT hZ (hw _ (List.mem_of_getElem? (i := 12) rfl))) (mvT hZ (hw _ (List.mem_of_getElem? (i := 13) rfl))) (by decide) (backOf (W := 1) (rm3 l Z a0 hw [] (f6 t.toNatClampNeg) h6 n0 (Nat.le_trans Z0 Kc6.1) ) hZ (hw _ (List.mem_of_getElem? (i := 13) rfl)) (hw _ (List.mem_of_getElem? (i := 12) rfl)) (by decide) (by decide)) (g := (mkF m 44 #[.val (.ref ar), .val (.int pb), .val (.int pe), .val (.int cn), .val (.int t), .val (.long (f t.toNatClampNeg)), .second] [(.long (f6 t.toNatClampNeg)), (.int cn)])) rfl (by rw [hml]; rfl) (argsL := [(.long (f6 t.toNatClampNeg))]) (rest := [(.int cn)]) (lenOf pd_1 rfl) rfl (by show 2 * 0 + _ ≤ _; exact Nat.le_of_eq rfl) (hb hby d1_44) (fun _ _ => ⟨rfl, e6, (by decide : 0 + 0 ≤ _), (by decide : 0 + 0 ≤ _)⟩)
      dsimp only [Pt.U, Pt.locs, Pt.cells, Pt.slots] at X8 l8 y8 z8 st8 hQ8
      subst l8 y8 z8
      obtain ⟨z8, rfl, N8q, e8⟩ := hQ8
      have N8 := Fr.app N6 N8q
      obtain ⟨_, _, ⟨T9, L9, k9, n9⟩, -, X9, ⟨Lc9, hQ9, l9, y9, z9⟩, st9⟩ := Jvm.LawKit.callS X8 hx (y := (⟨"java/lang/Long", "bitCount", "(J)I"⟩ : MethodName)) hown (mvT hZ (hw _ (List.mem_of_getElem? (i := 10) rfl))) (mvT hZ (hw _ (List.mem_of_getElem? (i := 11) rfl))) (mvT hZ (hw _ (List.mem_of_getElem? (i := 12) rfl))) (mvT hZ (hw _ (List.mem_of_getElem? (i := 13) rfl))) (by decide) (backOf (W := 2) (rm3 l Z a0 hw [] (f t.toNatClampNeg) h6 n0 (Nat.le_trans Z0 Kc6.1) ) hZ (hw _ (List.mem_of_getElem? (i := 13) rfl)) (hw _ (List.mem_of_getElem? (i := 12) rfl)) (by decide) (by decide)) (g := (mkF m 49 #[.val (.ref ar), .val (.int pb), .val (.int pe), .val (.int cn), .val (.int t), .val (.long (f t.toNatClampNeg)), .second] [(.long (f t.toNatClampNeg)), (.int z8), (.int cn)])) rfl (by rw [hml]; rfl) (argsL := [(.long (f t.toNatClampNeg))]) (rest := [(.int z8), (.int cn)]) (lenOf pd_1 rfl) rfl (by show 2 * 0 + _ ≤ _; exact Nat.le_of_eq rfl) (hb hby d1_49) (fun _ _ => ⟨rfl, e8, (by decide : 0 + 0 ≤ _), (by decide : 0 + 0 ≤ _)⟩)
      dsimp only [Pt.U, Pt.locs, Pt.cells, Pt.slots] at X9 l9 y9 z9 st9 hQ9
      subst l9 y9 z9
      obtain ⟨z9, rfl, N9q, e9⟩ := hQ9
      have N9 := Fr.app N8 N9q
      have pre10 : ∀ tq, Steps p.tables e below (T9.setTop (mkF m 8 #[.val (.ref ar), .val (.int pb), .val (.int pe), .val (.int (cn + (z8 - z9))), .val (.int (t + (1 : Int32))), .val (.long (f t.toNatClampNeg)), .second] [])) tq → Steps p.tables e below (T0.setTop (mkF m 8 #[.val (.ref ar), .val (.int pb), .val (.int pe), .val (.int cn), .val (.int t), s5, s6] [])) tq := by
        intro tq kt
        refine preL tq ?_
        show Steps p.tables e below (T0.setTop (mkF m 8 #[.val (.ref ar), .val (.int pb), .val (.int pe), .val (.int cn), .val (.int t), s5, s6] [])) _
        refine XS.iload Xa.here hx rfl (hb hby d1_8) rfl ?_
        show Steps p.tables e below (T0.setTop (mkF m 10 #[.val (.ref ar), .val (.int pb), .val (.int pe), .val (.int cn), .val (.int t), s5, s6] [(.int t)])) _
        refine XS.iloadN Xa.here hx rfl (hb hby d1_10) rfl ?_
        show Steps p.tables e below (T0.setTop (mkF m 11 #[.val (.ref ar), .val (.int pb), .val (.int pe), .val (.int cn), .val (.int t), s5, s6] [(.int pe), (.int t)])) _
        refine XS.iconst Xa.here hx rfl (hb hby d1_11) ?_
        show Steps p.tables e below (T0.setTop (mkF m 12 #[.val (.ref ar), .val (.int pb), .val (.int pe), .val (.int cn), .val (.int t), s5, s6] [(.int (1 : Int32)), (.int pe), (.int t)])) _
        refine XS.isub Xa.here hx rfl (hb hby d1_12) rfl ?_
        show Steps p.tables e below (T0.setTop (mkF m 13 #[.val (.ref ar), .val (.int pb), .val (.int pe), .val (.int cn), .val (.int t), s5, s6] [(.int (pe - (1 : Int32))), (.int t)])) _
        refine XS.bipush Xa.here hx rfl (hb hby d1_13) ?_
        show Steps p.tables e below (T0.setTop (mkF m 15 #[.val (.ref ar), .val (.int pb), .val (.int pe), .val (.int cn), .val (.int t), s5, s6] [(.int (6 : Int32)), (.int (pe - (1 : Int32))), (.int t)])) _
        refine XS.iushr Xa.here hx rfl (hb hby d1_15) rfl ?_
        show Steps p.tables e below (T0.setTop (mkF m 16 #[.val (.ref ar), .val (.int pb), .val (.int pe), .val (.int cn), .val (.int t), s5, s6] [(.int (((pe - (1 : Int32)).toUInt32 >>> ((6 : Int32) &&& 31).toUInt32).toInt32)), (.int t)])) _
        refine XS.icmpNo Xa.here hx rfl (hb hby d1_16) rfl (flt (by rw [hhi, Int32.lt_iff_toInt_lt]; omega : ¬ ((((pe - (1 : Int32)).toUInt32 >>> ((6 : Int32) &&& 31).toUInt32).toInt32) < t))).2.2.1 ?_
        show Steps p.tables e below (T0.setTop (mkF m 19 #[.val (.ref ar), .val (.int pb), .val (.int pe), .val (.int cn), .val (.int t), s5, s6] [])) _
        refine XS.aloadN Xa.here hx rfl (hb hby d1_19) rfl rfl ?_
        show Steps p.tables e below (T0.setTop (mkF m 20 #[.val (.ref ar), .val (.int pb), .val (.int pe), .val (.int cn), .val (.int t), s5, s6] [(.ref ar)])) _
        refine XS.iload Xa.here hx rfl (hb hby d1_20) rfl ?_
        show Steps p.tables e below (T0.setTop (mkF m 22 #[.val (.ref ar), .val (.int pb), .val (.int pe), .val (.int cn), .val (.int t), s5, s6] [(.int t), (.ref ar)])) _
        refine Xa.laload hx (j := t) (v := (.long (f t.toNatClampNeg))) (by rw [ea]; exact Ar3.1) (State.isArrayOf_alike (hZ).alike Ar3.2.1) Ar3.2.2 hin3 hat3 (g := (mkF m 22 #[.val (.ref ar), .val (.int pb), .val (.int pe), .val (.int cn), .val (.int t), s5, s6] [(.int t), (.ref ar)])) rfl rfl (hb hby d1_22) _ ?_
        show Steps p.tables e below (T0.setTop (mkF m 23 #[.val (.ref ar), .val (.int pb), .val (.int pe), .val (.int cn), .val (.int t), s5, s6] [(.long (f t.toNatClampNeg))])) _
        refine XS.lstore Xa.here hx rfl (hb hby d1_23) rfl (l' := #[.val (.ref ar), .val (.int pb), .val (.int pe), .val (.int cn), .val (.int t), .val (.long (f t.toNatClampNeg)), .second]) (hs _) ?_
        show Steps p.tables e below (T0.setTop (mkF m 25 #[.val (.ref ar), .val (.int pb), .val (.int pe), .val (.int cn), .val (.int t), .val (.long (f t.toNatClampNeg)), .second] [])) _
        refine XS.aloadN Xa.here hx rfl (hb hby d1_25) rfl rfl ?_
        show Steps p.tables e below (T0.setTop (mkF m 26 #[.val (.ref ar), .val (.int pb), .val (.int pe), .val (.int cn), .val (.int t), .val (.long (f t.toNatClampNeg)), .second] [(.ref ar)])) _
        refine XS.iload Xa.here hx rfl (hb hby d1_26) rfl ?_
        show Steps p.tables e below (T0.setTop (mkF m 28 #[.val (.ref ar), .val (.int pb), .val (.int pe), .val (.int cn), .val (.int t), .val (.long (f t.toNatClampNeg)), .second] [(.int t), (.ref ar)])) _
        refine XS.lload Xa.here hx rfl (hb hby d1_28) rfl ?_
        show Steps p.tables e below (T0.setTop (mkF m 30 #[.val (.ref ar), .val (.int pb), .val (.int pe), .val (.int cn), .val (.int t), .val (.long (f t.toNatClampNeg)), .second] [(.long (f t.toNatClampNeg)), (.int t), (.ref ar)])) _
        refine XS.iload Xa.here hx rfl (hb hby d1_30) rfl ?_
        show Steps p.tables e below (T0.setTop (mkF m 32 #[.val (.ref ar), .val (.int pb), .val (.int pe), .val (.int cn), .val (.int t), .val (.long (f t.toNatClampNeg)), .second] [(.int t), (.long (f t.toNatClampNeg)), (.int t), (.ref ar)])) _
        refine XS.iloadN Xa.here hx rfl (hb hby d1_32) rfl ?_
        show Steps p.tables e below (T0.setTop (mkF m 33 #[.val (.ref ar), .val (.int pb), .val (.int pe), .val (.int cn), .val (.int t), .val (.long (f t.toNatClampNeg)), .second] [(.int pb), (.int t), (.long (f t.toNatClampNeg)), (.int t), (.ref ar)])) _
        refine XS.iloadN Xa.here hx rfl (hb hby d1_33) rfl ?_
        show Steps p.tables e below (T0.setTop (mkF m 34 #[.val (.ref ar), .val (.int pb), .val (.int pe), .val (.int cn), .val (.int t), .val (.long (f t.toNatClampNeg)), .second] [(.int pe), (.int pb), (.int t), (.long (f t.toNatClampNeg)), (.int t), (.ref ar)])) _
        refine st4 _ ?_
        show Steps p.tables e below (T4.setTop (mkF m 37 #[.val (.ref ar), .val (.int pb), .val (.int pe), .val (.int cn), .val (.int t), .val (.long (f t.toNatClampNeg)), .second] [(.long z4), (.long (f t.toNatClampNeg)), (.int t), (.ref ar)])) _
        refine XS.lor X4.here hx rfl (hb hby d1_37) rfl ?_
        show Steps p.tables e below (T4.setTop (mkF m 38 #[.val (.ref ar), .val (.int pb), .val (.int pe), .val (.int cn), .val (.int t), .val (.long (f t.toNatClampNeg)), .second] [(.long ((f t.toNatClampNeg) ||| z4)), (.int t), (.ref ar)])) _
        refine st6 _ ?_
        show Steps p.tables e below (T6.setTop (mkF m 39 #[.val (.ref ar), .val (.int pb), .val (.int pe), .val (.int cn), .val (.int t), .val (.long (f t.toNatClampNeg)), .second] [])) _
        refine XS.iloadN X6.here hx rfl (hb hby d1_39) rfl ?_
        show Steps p.tables e below (T6.setTop (mkF m 40 #[.val (.ref ar), .val (.int pb), .val (.int pe), .val (.int cn), .val (.int t), .val (.long (f t.toNatClampNeg)), .second] [(.int cn)])) _
        refine XS.aloadN X6.here hx rfl (hb hby d1_40) rfl rfl ?_
        show Steps p.tables e below (T6.setTop (mkF m 41 #[.val (.ref ar), .val (.int pb), .val (.int pe), .val (.int cn), .val (.int t), .val (.long (f t.toNatClampNeg)), .second] [(.ref ar), (.int cn)])) _
        refine XS.iload X6.here hx rfl (hb hby d1_41) rfl ?_
        show Steps p.tables e below (T6.setTop (mkF m 43 #[.val (.ref ar), .val (.int pb), .val (.int pe), .val (.int cn), .val (.int t), .val (.long (f t.toNatClampNeg)), .second] [(.int t), (.ref ar), (.int cn)])) _
        refine X6.laload hx (j := t) (v := (.long (f6 t.toNatClampNeg))) (by rw [e6]; exact Ar7.1) (State.isArrayOf_alike (hZ).alike Ar7.2.1) Ar7.2.2 hin7 hat7 (g := (mkF m 43 #[.val (.ref ar), .val (.int pb), .val (.int pe), .val (.int cn), .val (.int t), .val (.long (f t.toNatClampNeg)), .second] [(.int t), (.ref ar), (.int cn)])) rfl rfl (hb hby d1_43) _ ?_
        show Steps p.tables e below (T6.setTop (mkF m 44 #[.val (.ref ar), .val (.int pb), .val (.int pe), .val (.int cn), .val (.int t), .val (.long (f t.toNatClampNeg)), .second] [(.long (f6 t.toNatClampNeg)), (.int cn)])) _
        refine st8 _ ?_
        show Steps p.tables e below (T8.setTop (mkF m 47 #[.val (.ref ar), .val (.int pb), .val (.int pe), .val (.int cn), .val (.int t), .val (.long (f t.toNatClampNeg)), .second] [(.int z8), (.int cn)])) _
        refine XS.lload X8.here hx rfl (hb hby d1_47) rfl ?_
        show Steps p.tables e below (T8.setTop (mkF m 49 #[.val (.ref ar), .val (.int pb), .val (.int pe), .val (.int cn), .val (.int t), .val (.long (f t.toNatClampNeg)), .second] [(.long (f t.toNatClampNeg)), (.int z8), (.int cn)])) _
        refine st9 _ ?_
        show Steps p.tables e below (T9.setTop (mkF m 52 #[.val (.ref ar), .val (.int pb), .val (.int pe), .val (.int cn), .val (.int t), .val (.long (f t.toNatClampNeg)), .second] [(.int z9), (.int z8), (.int cn)])) _
        refine XS.isub X9.here hx rfl (hb hby d1_52) rfl ?_
        show Steps p.tables e below (T9.setTop (mkF m 53 #[.val (.ref ar), .val (.int pb), .val (.int pe), .val (.int cn), .val (.int t), .val (.long (f t.toNatClampNeg)), .second] [(.int (z8 - z9)), (.int cn)])) _
        refine XS.iadd X9.here hx rfl (hb hby d1_53) rfl ?_
        show Steps p.tables e below (T9.setTop (mkF m 54 #[.val (.ref ar), .val (.int pb), .val (.int pe), .val (.int cn), .val (.int t), .val (.long (f t.toNatClampNeg)), .second] [(.int (cn + (z8 - z9)))])) _
        refine XS.istoreN X9.here hx rfl (hb hby d1_54) rfl (l' := #[.val (.ref ar), .val (.int pb), .val (.int pe), .val (.int (cn + (z8 - z9))), .val (.int t), .val (.long (f t.toNatClampNeg)), .second]) rfl ?_
        show Steps p.tables e below (T9.setTop (mkF m 55 #[.val (.ref ar), .val (.int pb), .val (.int pe), .val (.int (cn + (z8 - z9))), .val (.int t), .val (.long (f t.toNatClampNeg)), .second] [])) _
        refine XS.iinc X9.here hx rfl (hb hby d1_55) rfl (l' := #[.val (.ref ar), .val (.int pb), .val (.int pe), .val (.int (cn + (z8 - z9))), .val (.int (t + (1 : Int32))), .val (.long (f t.toNatClampNeg)), .second]) rfl ?_
        show Steps p.tables e below (T9.setTop (mkF m 58 #[.val (.ref ar), .val (.int pb), .val (.int pe), .val (.int (cn + (z8 - z9))), .val (.int (t + (1 : Int32))), .val (.long (f t.toNatClampNeg)), .second] [])) _
        refine XS.goto X9.here hx rfl (pc0 := 58) (pc' := 8) rfl (hb hby d1_58) (by decide) (by decide) ?_
        show Steps p.tables e below (T9.setTop (mkF m 8 #[.val (.ref ar), .val (.int pb), .val (.int pe), .val (.int (cn + (z8 - z9))), .val (.int (t + (1 : Int32))), .val (.long (f t.toNatClampNeg)), .second] [])) _
        exact kt
      have e1 : (1 : Int32).toInt = 1 := rfl
      have ha := c_iadd t 1
      have hr1 := rng32 (t + (1 : Int32))
      rw [e1] at ha
      have ht : (t + (1 : Int32)).toInt = t.toInt + 1 := by omega
      have hoff : ∀ k : Nat, ((k : Int) < lo.toInt ∨ hi.toInt < k) → f6 k = f0 k := by
        intro k hk
        rw [hf_f6]
        show (if k = t.toNatClampNeg then _ else f k) = f0 k
        rw [if_neg (by have := own_nat (j := t) ra; omega)]
        exact hf k hk
      obtain ⟨T1, lc1, cn1, t1, s5', s6', f1, y1, y2, y3, y4, y5, y6⟩ := ih _ _ _ (cn + (z8 - z9)) (t + (1 : Int32)) (.val (.long (f t.toNatClampNeg))) .second f6 X9 e9 N9 Kc6 V6 hoff (by rw [ht]; omega) (by rw [ht]; omega) (fun _ => rfl)
      exact ⟨T1, lc1, cn1, t1, s5', s6', f1, y1, y2, y3, y4, y5, fun tg k => pre10 _ (y6 tg k)⟩
  obtain ⟨T1, lc1, cn1, t1, s5', s6', f1, X1, N1, K1, V1, hf1, stl⟩ := loop (hi.toInt - lo.toInt + 1).toNat _ _ _ (0 : Int32) ((pb.toUInt32 >>> ((6 : Int32) &&& 31).toUInt32).toInt32) .unset .unset f0 X0 e0 N0 (Keep.refl h0 [ar]) V0 (fun _ _ => rfl) (by rw [hlo]; exact Int.le_refl _) (by rw [hlo]; omega) (fun _ => rfl)
  obtain ⟨fs, hr, hrun, hended, hW, hsame⟩ := X1.leave (v := some (.int cn1)) (fun h => by rw [Bd.returns] at h; cases h)
  refine ⟨_, _, pre1 _ ?_, hrun, hended, _, _, rfl, ?_, ⟨_, rfl⟩, hW, hsame.mono (by decide) (by decide)⟩
  · refine stl _ ?_
    show Steps p.tables e below (T1.setTop (mkF m 61 #[.val (.ref ar), .val (.int pb), .val (.int pe), .val (.int cn1), .val (.int t1), s5', s6'] [])) _
    refine XS.iloadN X1.here hx rfl (hb hby d1_61) rfl ?_
    show Steps p.tables e below (T1.setTop (mkF m 62 #[.val (.ref ar), .val (.int pb), .val (.int pe), .val (.int cn1), .val (.int t1), s5', s6'] [(.int cn1)])) _
    exact retI X1 hx Bd.returns (hb hby d1_62) hr
  · show Q1 Z ar pb pe f0 lo hi h0 n0 _ T1.heap _
    exact ⟨_, f1, rfl, N1, K1, V1, hf1⟩
theorem d7_0 : decode prog_20_method_1_code 0 = .ok (.aload_n 0, 1) := by decide +kernel
theorem d7_1 : decode prog_20_method_1_code 1 = .ok (.invokespecial 1, 3) := by decide +kernel
theorem d7_4 : decode prog_20_method_1_code 4 = .ok (.return_, 1) := by decide +kernel
theorem pn_3 : plainName "com/example/bitgrove/bitgrove/Container" = true := by first | (simp [plainName, overriddenIn]; done) | decide +kernel
theorem ef_rm7 (m : MethodId) (x0 : Addr) : entryFrame m #[(.ref x0)] 1 = mkF m 0 #[.val (.ref x0)] [] := by first | (simp [entryFrame, mkF, argsToLocals, Value.category]; done) | rfl
def Q7 (Z : State) (ob : Addr) (h0 : Heap) (n0 : Nat) (v : Option Value) (h : Heap) (L : List Loc) : Prop := v = none ∧ Fr n0 L ∧ h = h0
set_option maxRecDepth 65536 in
set_option maxHeartbeats 40000000 in
theorem rm7 (l : Launch) (Z : State) (a0 : Array Value) (hw : ∀ d ∈ tables_1, d.before a0 Z = true) (ws : List Jvm.Cond) (ob : Addr) (h0 : Heap) (n0 : Nat) (Z0 : n0 ≤ h0.size) :
    MetFree l (⟨"com/example/bitgrove/bitgrove/Container", "<init>", "()V"⟩ : MethodName) (head1 (Jvm.Cond.code (⟨"com/example/bitgrove/bitgrove/Container", "<init>", "()V"⟩ : MethodName) prog_20_method_1_code 1 none :: ws) ({ frames := 1, cells := 0, slots := 0, locals := 12 } : Room)) (fun a U => a = #[(.ref ob)] ∧ Z.Warmed39 U.vm ∧ U.heap = h0) (fun _ _ _ _ _ => True) (fun _ U o U' => ∃ v L, o = .returned v ∧ Q7 Z ob h0 n0 v U'.heap L ∧ FrameEnd U o U' L ({ frames := 1, cells := 0, slots := 0, locals := 12 } : Room).cells ({ frames := 1, cells := 0, slots := 0, locals := 12 } : Room).slots) := by
  refine MetFree.of_bodySF (plainFor_of_name pn_3) hisR ?_
  intro p e s m args below meth c s₁ Bd hml0 hP hK
  obtain ⟨rfl, hZ, hh⟩ := hP
  have hx := Bd.exec
  have hby := Bd.bytes
  have hml : c.maxLocals = 1 := hml0
  have hown : s.vm.findClass "com/example/bitgrove/bitgrove/Container" = some m.cls := findClass_of_methodNamed Bd.named
  have hnm := (name_of_methodNamed Bd.named Bd.method).1
  have X0 : Stand p l e ({ frames := 1, cells := 0, slots := 0, locals := 12 } : Room) s m #[(.ref ob)] below meth c s₁ [] 0 0 := Stand.of_body Bd
  have e0 : s₁.heap = h0 := by rw [← hh, Bd.state]; rfl
  have N0 := Fr.nil n0
  have pre0 : ∀ t, Steps p.tables e below (s₁.setTop (mkF m 0 #[.val (.ref ob)] [])) t → Steps p.tables e below (s₁.setTop (entryFrame m #[(.ref ob)] 1)) t := fun t k => castTop (ef_rm7 m ob) k
  obtain ⟨T1, X1, e1, st1⟩ := initO X0 hx hZ hown (hw _ (List.mem_of_getElem? (i := 40) rfl)) (hw _ (List.mem_of_getElem? (i := 41) rfl)) (hw _ (List.mem_of_getElem? (i := 42) rfl)) e0 (g := (mkF m 1 #[.val (.ref ob)] [(.ref ob)])) rfl (by rw [hml]; rfl) rfl (hb hby d7_1) (by decide) (W := 0) (by show 2 * 0 + _ ≤ _; exact Nat.le_of_eq rfl) (by decide)
  obtain ⟨fs, hr, hrun, hended, hW, hsame⟩ := X1.leave (v := none) (fun _ => rfl)
  refine ⟨_, _, pre0 _ ?_, hrun, hended, _, _, rfl, ?_, ⟨_, rfl⟩, hW, hsame.mono (by decide) (by decide)⟩
  · show Steps p.tables e below (s₁.setTop (mkF m 0 #[.val (.ref ob)] [])) _
    refine XS.aloadN X0.here hx rfl (hb hby d7_0) rfl rfl ?_
    show Steps p.tables e below (s₁.setTop (mkF m 1 #[.val (.ref ob)] [(.ref ob)])) _
    refine st1 _ ?_
    show Steps p.tables e below (T1.setTop (mkF m 4 #[.val (.ref ob)] [])) _
    exact X1.returnOut hx Bd.returns (hb hby d7_4) hr
  · show Q7 Z ob h0 n0 _ T1.heap _
    rw [e1]
    exact ⟨rfl, N0, rfl⟩
theorem d6_0 : decode prog_7_method_1_code 0 = .ok (.aload_n 0, 1) := by decide +kernel
theorem d6_1 : decode prog_7_method_1_code 1 = .ok (.invokespecial 7, 3) := by decide +kernel
theorem pd_2 : parseMethodDescriptor "()V" = some ⟨[], none⟩ := by decide +kernel
theorem d6_4 : decode prog_7_method_1_code 4 = .ok (.return_, 1) := by decide +kernel
theorem ef_rm6 (m : MethodId) (x0 : Addr) : entryFrame m #[(.ref x0)] 1 = mkF m 0 #[.val (.ref x0)] [] := by first | (simp [entryFrame, mkF, argsToLocals, Value.category]; done) | rfl
def Q6 (Z : State) (ob : Addr) (h0 : Heap) (n0 : Nat) (v : Option Value) (h : Heap) (L : List Loc) : Prop := v = none ∧ Fr n0 L ∧ h = h0
set_option maxRecDepth 65536 in
set_option maxHeartbeats 40000000 in
theorem rm6 (l : Launch) (Z : State) (a0 : Array Value) (hw : ∀ d ∈ tables_1, d.before a0 Z = true) (ws : List Jvm.Cond) (ob : Addr) (h0 : Heap) (n0 : Nat) (Z0 : n0 ≤ h0.size) :
    MetFree l (⟨"com/example/bitgrove/bitgrove/BitmapContainer", "<init>", "()V"⟩ : MethodName) (head1 (Jvm.Cond.code (⟨"com/example/bitgrove/bitgrove/BitmapContainer", "<init>", "()V"⟩ : MethodName) prog_7_method_1_code 1 none :: ws) ({ frames := 2, cells := 0, slots := 0, locals := 24 } : Room)) (fun a U => a = #[(.ref ob)] ∧ Z.Warmed39 U.vm ∧ U.heap = h0) (fun _ _ _ _ _ => True) (fun _ U o U' => ∃ v L, o = .returned v ∧ Q6 Z ob h0 n0 v U'.heap L ∧ FrameEnd U o U' L ({ frames := 2, cells := 0, slots := 0, locals := 24 } : Room).cells ({ frames := 2, cells := 0, slots := 0, locals := 24 } : Room).slots) := by
  refine MetFree.of_bodySF (plainFor_of_name pn_0) hisR ?_
  intro p e s m args below meth c s₁ Bd hml0 hP hK
  obtain ⟨rfl, hZ, hh⟩ := hP
  have hx := Bd.exec
  have hby := Bd.bytes
  have hml : c.maxLocals = 1 := hml0
  have hown : s.vm.findClass "com/example/bitgrove/bitgrove/BitmapContainer" = some m.cls := findClass_of_methodNamed Bd.named
  have hnm := (name_of_methodNamed Bd.named Bd.method).1
  have X0 : Stand p l e ({ frames := 2, cells := 0, slots := 0, locals := 24 } : Room) s m #[(.ref ob)] below meth c s₁ [] 0 0 := Stand.of_body Bd
  have e0 : s₁.heap = h0 := by rw [← hh, Bd.state]; rfl
  have N0 := Fr.nil n0
  have pre0 : ∀ t, Steps p.tables e below (s₁.setTop (mkF m 0 #[.val (.ref ob)] [])) t → Steps p.tables e below (s₁.setTop (entryFrame m #[(.ref ob)] 1)) t := fun t k => castTop (ef_rm6 m ob) k
  obtain ⟨_, _, ⟨T1, L1, k1, n1⟩, -, X1, ⟨Lc1, hQ1, l1, y1, z1⟩, st1⟩ := X0.specialBack hx (y := (⟨"com/example/bitgrove/bitgrove/Container", "<init>", "()V"⟩ : MethodName)) rfl hown (mvT hZ (hw _ (List.mem_of_getElem? (i := 35) rfl))) (mvT hZ (hw _ (List.mem_of_getElem? (i := 36) rfl))) (mvT hZ (hw _ (List.mem_of_getElem? (i := 39) rfl))) (by decide) (backOf (W := 0) (rm7 l Z a0 hw [] ob h0 n0 Z0 ) hZ (hw _ (List.mem_of_getElem? (i := 39) rfl)) (hw _ (List.mem_of_getElem? (i := 38) rfl)) (by decide) (by decide)) (g := (mkF m 1 #[.val (.ref ob)] [(.ref ob)])) rfl (by rw [hml]; rfl) (Steps.refl _) (a := ob) (argsL := []) (rest := []) (lenOf pd_2 rfl) rfl (by show 2 * 0 + _ ≤ _; exact Nat.le_of_eq rfl) (hb hby d6_1) (fun _ _ => ⟨rfl, e0, (by decide : 0 + 0 ≤ _), (by decide : 0 + 0 ≤ _)⟩)
  dsimp only [Pt.U, Pt.locs, Pt.cells, Pt.slots] at X1 l1 y1 z1 st1 hQ1
  subst l1 y1 z1
  obtain ⟨rfl, N1q, e1⟩ := hQ1
  have N1 := Fr.app N0 N1q
  obtain ⟨fs, hr, hrun, hended, hW, hsame⟩ := X1.leave (v := none) (fun _ => rfl)
  refine ⟨_, _, pre0 _ ?_, hrun, hended, _, _, rfl, ?_, ⟨_, rfl⟩, hW, hsame.mono (by decide) (by decide)⟩
  · show Steps p.tables e below (s₁.setTop (mkF m 0 #[.val (.ref ob)] [])) _
    refine XS.aloadN X0.here hx rfl (hb hby d6_0) rfl rfl ?_
    show Steps p.tables e below (s₁.setTop (mkF m 1 #[.val (.ref ob)] [(.ref ob)])) _
    refine st1.trans ?_
    show Steps p.tables e below (T1.setTop (mkF m 4 #[.val (.ref ob)] [])) _
    exact X1.returnOut hx Bd.returns (hb hby d6_4) hr
  · show Q6 Z ob h0 n0 _ T1.heap _
    rw [e1]
    exact ⟨rfl, N1, rfl⟩
theorem d5_0 : decode prog_23_method_2_code 0 = .ok (.aload_n 0, 1) := by decide +kernel
theorem d5_1 : decode prog_23_method_2_code 1 = .ok (.invokespecial 11, 3) := by decide +kernel
theorem d5_4 : decode prog_23_method_2_code 4 = .ok (.aload_n 0, 1) := by decide +kernel
theorem d5_5 : decode prog_23_method_2_code 5 = .ok (.aload_n 1, 1) := by decide +kernel
theorem d5_6 : decode prog_23_method_2_code 6 = .ok (.putfield 16, 3) := by decide +kernel
theorem d5_9 : decode prog_23_method_2_code 9 = .ok (.aload_n 0, 1) := by decide +kernel
theorem d5_10 : decode prog_23_method_2_code 10 = .ok (.iload_n 2, 1) := by decide +kernel
theorem d5_11 : decode prog_23_method_2_code 11 = .ok (.putfield 20, 3) := by decide +kernel
theorem d5_14 : decode prog_23_method_2_code 14 = .ok (.return_, 1) := by decide +kernel
theorem pn_4 : plainName "com/example/bitgrove/bitgrove/HeapBitmapContainer" = true := by first | (simp [plainName, overriddenIn]; done) | decide +kernel
theorem ef_rm5 (m : MethodId) (x0 : Addr) (x1 : Addr) (x2 : Int32) : entryFrame m #[(.ref x0), (.ref x1), (.int x2)] 3 = mkF m 0 #[.val (.ref x0), .val (.ref x1), .val (.int x2)] [] := by first | (simp [entryFrame, mkF, argsToLocals, Value.category]; done) | rfl
def Q5 (Z : State) (ob : Addr) (wa : Addr) (cd : Int32) (h0 : Heap) (n0 : Nat) (v : Option Value) (h : Heap) (L : List Loc) : Prop := v = none ∧ Fr n0 L ∧ Keep h0 h [ob] ∧ Exa Z h ob "com/example/bitgrove/bitgrove/HeapBitmapContainer" ∧ Fld Z h ob "com/example/bitgrove/bitgrove/HeapBitmapContainer" "words" "[J" (.ref wa) ∧ Fld Z h ob "com/example/bitgrove/bitgrove/HeapBitmapContainer" "cardinality" "I" (.int cd)
set_option maxRecDepth 65536 in
set_option maxHeartbeats 40000000 in
theorem rm5 (l : Launch) (Z : State) (a0 : Array Value) (hw : ∀ d ∈ tables_1, d.before a0 Z = true) (ws : List Jvm.Cond) (ob : Addr) (wa : Addr) (cd : Int32) (h0 : Heap) (n0 : Nat) (Z0 : n0 ≤ h0.size) (E_ob : Exa Z h0 ob "com/example/bitgrove/bitgrove/HeapBitmapContainer") (g_ob : n0 ≤ ob) (F_words : Fld Z h0 ob "com/example/bitgrove/bitgrove/HeapBitmapContainer" "words" "[J" .null) (F_card : Fld Z h0 ob "com/example/bitgrove/bitgrove/HeapBitmapContainer" "cardinality" "I" (.int (0 : Int32))) :
    MetFree l (⟨"com/example/bitgrove/bitgrove/HeapBitmapContainer", "<init>", "([JI)V"⟩ : MethodName) (head1 (Jvm.Cond.code (⟨"com/example/bitgrove/bitgrove/HeapBitmapContainer", "<init>", "([JI)V"⟩ : MethodName) prog_23_method_2_code 3 none :: ws) ({ frames := 3, cells := 0, slots := 0, locals := 36 } : Room)) (fun a U => a = #[(.ref ob), (.ref wa), (.int cd)] ∧ Z.Warmed39 U.vm ∧ U.heap = h0) (fun _ _ _ _ _ => True) (fun _ U o U' => ∃ v L, o = .returned v ∧ Q5 Z ob wa cd h0 n0 v U'.heap L ∧ FrameEnd U o U' L ({ frames := 3, cells := 0, slots := 0, locals := 36 } : Room).cells ({ frames := 3, cells := 0, slots := 0, locals := 36 } : Room).slots) := by
  refine MetFree.of_bodySF (plainFor_of_name pn_4) hisR ?_
  intro p e s m args below meth c s₁ Bd hml0 hP hK
  obtain ⟨rfl, hZ, hh⟩ := hP
  have hx := Bd.exec
  have hby := Bd.bytes
  have hml : c.maxLocals = 3 := hml0
  have hown : s.vm.findClass "com/example/bitgrove/bitgrove/HeapBitmapContainer" = some m.cls := findClass_of_methodNamed Bd.named
  have hnm := (name_of_methodNamed Bd.named Bd.method).1
  have X0 : Stand p l e ({ frames := 3, cells := 0, slots := 0, locals := 36 } : Room) s m #[(.ref ob), (.ref wa), (.int cd)] below meth c s₁ [] 0 0 := Stand.of_body Bd
  have e0 : s₁.heap = h0 := by rw [← hh, Bd.state]; rfl
  have N0 := Fr.nil n0
  have pre0 : ∀ t, Steps p.tables e below (s₁.setTop (mkF m 0 #[.val (.ref ob), .val (.ref wa), .val (.int cd)] [])) t → Steps p.tables e below (s₁.setTop (entryFrame m #[(.ref ob), (.ref wa), (.int cd)] 3)) t := fun t k => castTop (ef_rm5 m ob wa cd) k
  obtain ⟨_, _, ⟨T1, L1, k1, n1⟩, -, X1, ⟨Lc1, hQ1, l1, y1, z1⟩, st1⟩ := X0.specialBack hx (y := (⟨"com/example/bitgrove/bitgrove/BitmapContainer", "<init>", "()V"⟩ : MethodName)) rfl hown (mvT hZ (hw _ (List.mem_of_getElem? (i := 31) rfl))) (mvT hZ (hw _ (List.mem_of_getElem? (i := 32) rfl))) (mvT hZ (hw _ (List.mem_of_getElem? (i := 34) rfl))) (by decide) (backOf (W := 0) (rm6 l Z a0 hw [] ob h0 n0 Z0 ) hZ (hw _ (List.mem_of_getElem? (i := 34) rfl)) (hw _ (List.mem_of_getElem? (i := 4) rfl)) (by decide) (by decide)) (g := (mkF m 1 #[.val (.ref ob), .val (.ref wa), .val (.int cd)] [(.ref ob)])) rfl (by rw [hml]; rfl) (Steps.refl _) (a := ob) (argsL := []) (rest := []) (lenOf pd_2 rfl) rfl (by show 2 * 0 + _ ≤ _; exact Nat.le_of_eq rfl) (hb hby d5_1) (fun _ _ => ⟨rfl, e0, (by decide : 0 + 0 ≤ _), (by decide : 0 + 0 ≤ _)⟩)
  dsimp only [Pt.U, Pt.locs, Pt.cells, Pt.slots] at X1 l1 y1 z1 st1 hQ1
  subst l1 y1 z1
  obtain ⟨rfl, N1q, e1⟩ := hQ1
  have N1 := Fr.app N0 N1q
  obtain ⟨T2, h2, X2, e2, W2, st2⟩ := putF X1 hx hZ hown (host := "") (Or.inl (hw _ (List.mem_of_getElem? (i := 43) rfl))) Via.refl e1 F_words E_ob (Or.inr ⟨(hw _ (List.mem_of_getElem? (i := 44) rfl)), rfl, hnm⟩) (hw _ (List.mem_of_getElem? (i := 26) rfl)) (ty := (.array .long)) (by decide) rfl rfl (g := (mkF m 6 #[.val (.ref ob), .val (.ref wa), .val (.int cd)] [(.ref wa), (.ref ob)])) rfl rfl (hb hby d5_6)
  have Kc2 : Keep h0 h2 [ob] := (Keep.refl h0 [ob]).wr W2 (Or.inl (List.mem_of_getElem? (i := 0) rfl))
  have N2 := Fr.snoc X2 N1 g_ob
  have Fw2 : Fld Z h2 ob "com/example/bitgrove/bitgrove/HeapBitmapContainer" "words" "[J" (.ref wa) := F_words.same W2
  obtain ⟨T3, h3, X3, e3, W3, st3⟩ := putF X2 hx hZ hown (host := "") (Or.inl (hw _ (List.mem_of_getElem? (i := 45) rfl))) Via.refl e2 (F_card.other W2 (Or.inr (slot_ne (Or.inl (hw _ (List.mem_of_getElem? (i := 46) rfl))) (Or.inr (hw _ (List.mem_of_getElem? (i := 44) rfl))) (by decide) (t := .int) (t' := (.array .long)) (by decide) (by decide)))) (E_ob.wr W2) (Or.inl (hw _ (List.mem_of_getElem? (i := 46) rfl))) (hw _ (List.mem_of_getElem? (i := 26) rfl)) (ty := .int) (by decide) rfl rfl (g := (mkF m 11 #[.val (.ref ob), .val (.ref wa), .val (.int cd)] [(.int cd), (.ref ob)])) rfl rfl (hb hby d5_11)
  have Kc3 : Keep h0 h3 [ob] := Kc2.wr W3 (Or.inl (List.mem_of_getElem? (i := 0) rfl))
  have N3 := Fr.snoc X3 N2 g_ob
  have Fw3 : Fld Z h3 ob "com/example/bitgrove/bitgrove/HeapBitmapContainer" "cardinality" "I" (.int cd) := (F_card.other W2 (Or.inr (slot_ne (Or.inl (hw _ (List.mem_of_getElem? (i := 46) rfl))) (Or.inr (hw _ (List.mem_of_getElem? (i := 44) rfl))) (by decide) (t := .int) (t' := (.array .long)) (by decide) (by decide)))).same W3
  obtain ⟨fs, hr, hrun, hended, hW, hsame⟩ := X3.leave (v := none) (fun _ => rfl)
  refine ⟨_, _, pre0 _ ?_, hrun, hended, _, _, rfl, ?_, ⟨_, rfl⟩, hW, hsame.mono (by decide) (by decide)⟩
  · show Steps p.tables e below (s₁.setTop (mkF m 0 #[.val (.ref ob), .val (.ref wa), .val (.int cd)] [])) _
    refine XS.aloadN X0.here hx rfl (hb hby d5_0) rfl rfl ?_
    show Steps p.tables e below (s₁.setTop (mkF m 1 #[.val (.ref ob), .val (.ref wa), .val (.int cd)] [(.ref ob)])) _
    refine st1.trans ?_
    show Steps p.tables e below (T1.setTop (mkF m 4 #[.val (.ref ob), .val (.ref wa), .val (.int cd)] [])) _
    refine XS.aloadN X1.here hx rfl (hb hby d5_4) rfl rfl ?_
    show Steps p.tables e below (T1.setTop (mkF m 5 #[.val (.ref ob), .val (.ref wa), .val (.int cd)] [(.ref ob)])) _
    refine XS.aloadN X1.here hx rfl (hb hby d5_5) rfl rfl ?_
    show Steps p.tables e below (T1.setTop (mkF m 6 #[.val (.ref ob), .val (.ref wa), .val (.int cd)] [(.ref wa), (.ref ob)])) _
    refine st2 _ ?_
    show Steps p.tables e below (T2.setTop (mkF m 9 #[.val (.ref ob), .val (.ref wa), .val (.int cd)] [])) _
    refine XS.aloadN X2.here hx rfl (hb hby d5_9) rfl rfl ?_
    show Steps p.tables e below (T2.setTop (mkF m 10 #[.val (.ref ob), .val (.ref wa), .val (.int cd)] [(.ref ob)])) _
    refine XS.iloadN X2.here hx rfl (hb hby d5_10) rfl ?_
    show Steps p.tables e below (T2.setTop (mkF m 11 #[.val (.ref ob), .val (.ref wa), .val (.int cd)] [(.int cd), (.ref ob)])) _
    refine st3 _ ?_
    show Steps p.tables e below (T3.setTop (mkF m 14 #[.val (.ref ob), .val (.ref wa), .val (.int cd)] [])) _
    exact X3.returnOut hx Bd.returns (hb hby d5_14) hr
  · show Q5 Z ob wa cd h0 n0 _ T3.heap _
    rw [e3]
    exact ⟨rfl, N3, Kc3, ((E_ob.wr W2).wr W3), (Fw2.other W3 (Or.inr (slot_ne (Or.inr (hw _ (List.mem_of_getElem? (i := 44) rfl))) (Or.inl (hw _ (List.mem_of_getElem? (i := 46) rfl))) (by decide) (t := (.array .long)) (t' := .int) (by decide) (by decide)))), Fw3⟩
theorem d9_0 : decode prog_23_method_6_code 0 = .ok (.aload_n 0, 1) := by decide +kernel
theorem d9_1 : decode prog_23_method_6_code 1 = .ok (.getfield 16, 3) := by decide +kernel
theorem d9_4 : decode prog_23_method_6_code 4 = .ok (.iload_n 1, 1) := by decide +kernel
theorem d9_5 : decode prog_23_method_6_code 5 = .ok (.bipush 6, 2) := by decide +kernel
theorem d9_7 : decode prog_23_method_6_code 7 = .ok (.iushr, 1) := by decide +kernel
theorem d9_8 : decode prog_23_method_6_code 8 = .ok (.laload, 1) := by decide +kernel
theorem d9_9 : decode prog_23_method_6_code 9 = .ok (.lstore_n 2, 1) := by decide +kernel
theorem d9_10 : decode prog_23_method_6_code 10 = .ok (.lload_n 2, 1) := by decide +kernel
theorem d9_11 : decode prog_23_method_6_code 11 = .ok (.lconst 1, 1) := by decide +kernel
theorem d9_12 : decode prog_23_method_6_code 12 = .ok (.iload_n 1, 1) := by decide +kernel
theorem d9_13 : decode prog_23_method_6_code 13 = .ok (.lshl, 1) := by decide +kernel
theorem d9_14 : decode prog_23_method_6_code 14 = .ok (.lor, 1) := by decide +kernel
theorem d9_15 : decode prog_23_method_6_code 15 = .ok (.lstore 4, 2) := by decide +kernel
theorem d9_17 : decode prog_23_method_6_code 17 = .ok (.lload 4, 2) := by decide +kernel
theorem d9_19 : decode prog_23_method_6_code 19 = .ok (.lload_n 2, 1) := by decide +kernel
theorem d9_20 : decode prog_23_method_6_code 20 = .ok (.lcmp, 1) := by decide +kernel
theorem d9_21 : decode prog_23_method_6_code 21 = .ok (.ifCond .ne 5, 3) := by decide +kernel
theorem d9_24 : decode prog_23_method_6_code 24 = .ok (.aconst_null, 1) := by decide +kernel
theorem d9_25 : decode prog_23_method_6_code 25 = .ok (.areturn, 1) := by decide +kernel
theorem ef_rm9n (m : MethodId) (x0 : Addr) (x1 : Int32) : entryFrame m #[(.ref x0), (.int x1)] 6 = mkF m 0 #[.val (.ref x0), .val (.int x1), .unset, .unset, .unset, .unset] [] := by first | (simp [entryFrame, mkF, argsToLocals, Value.category]; done) | rfl
def Q9n (Z : State) (ob : Addr) (pl : Int32) (wa : Addr) (f : Nat → Int64) (cd : Int32) (h0 : Heap) (n0 : Nat) (v : Option Value) (h : Heap) (L : List Loc) : Prop := v = some .null ∧ Fr n0 L ∧ h = h0
set_option maxRecDepth 65536 in
set_option maxHeartbeats 40000000 in
theorem rm9n (l : Launch) (Z : State) (a0 : Array Value) (hw : ∀ d ∈ tables_1, d.before a0 Z = true) (ws : List Jvm.Cond) (ob : Addr) (pl : Int32) (wa : Addr) (f : Nat → Int64) (cd : Int32) (h0 : Heap) (n0 : Nat) (Z0 : n0 ≤ h0.size) (E_ob : Exa Z h0 ob "com/example/bitgrove/bitgrove/HeapBitmapContainer") (F_words : Fld Z h0 ob "com/example/bitgrove/bitgrove/HeapBitmapContainer" "words" "[J" (.ref wa)) (F_card : Fld Z h0 ob "com/example/bitgrove/bitgrove/HeapBitmapContainer" "cardinality" "I" (.int cd)) (V0 : LA Z h0 wa f) (g_ob : n0 ≤ ob) (g_wa : n0 ≤ wa) (hne : ob ≠ wa) (ra : 0 ≤ ((pl.toUInt32 >>> ((6 : Int32) &&& 31).toUInt32).toInt32).toInt) (rb : ((pl.toUInt32 >>> ((6 : Int32) &&& 31).toUInt32).toInt32).toInt < 1024) (hcn : (lcmpW ((f ((pl.toUInt32 >>> ((6 : Int32) &&& 31).toUInt32).toInt32).toNatClampNeg) ||| ((1 : Int64) <<< (pl.toInt64 &&& 63))) (f ((pl.toUInt32 >>> ((6 : Int32) &&& 31).toUInt32).toInt32).toNatClampNeg)) = (0 : Int32)) :
    MetFree l (⟨"com/example/bitgrove/bitgrove/HeapBitmapContainer", "add", "(I)Lcom/example/bitgrove/bitgrove/Container;"⟩ : MethodName) (head1 (Jvm.Cond.code (⟨"com/example/bitgrove/bitgrove/HeapBitmapContainer", "add", "(I)Lcom/example/bitgrove/bitgrove/Container;"⟩ : MethodName) prog_23_method_6_code 6 (some (.object "com/example/bitgrove/bitgrove/Container")) :: ws) ({ frames := 0, cells := 0, slots := 0, locals := 0 } : Room)) (fun a U => a = #[(.ref ob), (.int pl)] ∧ Z.Warmed39 U.vm ∧ U.heap = h0) (fun _ _ _ _ _ => True) (fun _ U o U' => ∃ v L, o = .returned v ∧ Q9n Z ob pl wa f cd h0 n0 v U'.heap L ∧ FrameEnd U o U' L ({ frames := 0, cells := 0, slots := 0, locals := 0 } : Room).cells ({ frames := 0, cells := 0, slots := 0, locals := 0 } : Room).slots) := by
  refine MetFree.of_bodySF (plainFor_of_name pn_4) hisR ?_
  intro p e s m args below meth c s₁ Bd hml0 hP hK
  obtain ⟨rfl, hZ, hh⟩ := hP
  have hx := Bd.exec
  have hby := Bd.bytes
  have hml : c.maxLocals = 6 := hml0
  have hown : s.vm.findClass "com/example/bitgrove/bitgrove/HeapBitmapContainer" = some m.cls := findClass_of_methodNamed Bd.named
  have hnm := (name_of_methodNamed Bd.named Bd.method).1
  have X0 : Stand p l e ({ frames := 0, cells := 0, slots := 0, locals := 0 } : Room) s m #[(.ref ob), (.int pl)] below meth c s₁ [] 0 0 := Stand.of_body Bd
  have e0 : s₁.heap = h0 := by rw [← hh, Bd.state]; rfl
  have N0 := Fr.nil n0
  have pre0 : ∀ t, Steps p.tables e below (s₁.setTop (mkF m 0 #[.val (.ref ob), .val (.int pl), .unset, .unset, .unset, .unset] [])) t → Steps p.tables e below (s₁.setTop (entryFrame m #[(.ref ob), (.int pl)] 6)) t := fun t k => castTop (ef_rm9n m ob pl) k
  obtain ⟨T1, X1, e1, st1⟩ := getF X0 hx hZ hown (host := "") (Or.inl (hw _ (List.mem_of_getElem? (i := 43) rfl))) Via.refl e0 F_words (g := (mkF m 1 #[.val (.ref ob), .val (.int pl), .unset, .unset, .unset, .unset] [(.ref ob)])) rfl rfl (hb hby d9_1)
  obtain ⟨cl2, Ar2, hz2, he2⟩ := (id V0)
  have hin2 := own_in hz2 (j := ((pl.toUInt32 >>> ((6 : Int32) &&& 31).toUInt32).toInt32)) ra rb
  have hat2 : cl2.slots[((pl.toUInt32 >>> ((6 : Int32) &&& 31).toUInt32).toInt32).toNatClampNeg]? = some (.long (f ((pl.toUInt32 >>> ((6 : Int32) &&& 31).toUInt32).toInt32).toNatClampNeg)) := he2 _ (by have := own_nat (j := ((pl.toUInt32 >>> ((6 : Int32) &&& 31).toUInt32).toInt32)) ra; have := rb; omega)
  obtain ⟨fs, hr, hrun, hended, hW, hsame⟩ := X1.leave (v := some .null) (fun h => by rw [Bd.returns] at h; cases h)
  refine ⟨_, _, pre0 _ ?_, hrun, hended, _, _, rfl, ?_, ⟨_, rfl⟩, hW, hsame.mono (by decide) (by decide)⟩
  · show Steps p.tables e below (s₁.setTop (mkF m 0 #[.val (.ref ob), .val (.int pl), .unset, .unset, .unset, .unset] [])) _
    refine XS.aloadN X0.here hx rfl (hb hby d9_0) rfl rfl ?_
    show Steps p.tables e below (s₁.setTop (mkF m 1 #[.val (.ref ob), .val (.int pl), .unset, .unset, .unset, .unset] [(.ref ob)])) _
    refine st1 _ ?_
    show Steps p.tables e below (T1.setTop (mkF m 4 #[.val (.ref ob), .val (.int pl), .unset, .unset, .unset, .unset] [(.ref wa)])) _
    refine XS.iloadN X1.here hx rfl (hb hby d9_4) rfl ?_
    show Steps p.tables e below (T1.setTop (mkF m 5 #[.val (.ref ob), .val (.int pl), .unset, .unset, .unset, .unset] [(.int pl), (.ref wa)])) _
    refine XS.bipush X1.here hx rfl (hb hby d9_5) ?_
    show Steps p.tables e below (T1.setTop (mkF m 7 #[.val (.ref ob), .val (.int pl), .unset, .unset, .unset, .unset] [(.int (6 : Int32)), (.int pl), (.ref wa)])) _
    refine XS.iushr X1.here hx rfl (hb hby d9_7) rfl ?_
    show Steps p.tables e below (T1.setTop (mkF m 8 #[.val (.ref ob), .val (.int pl), .unset, .unset, .unset, .unset] [(.int ((pl.toUInt32 >>> ((6 : Int32) &&& 31).toUInt32).toInt32)), (.ref wa)])) _
    refine X1.laload hx (j := ((pl.toUInt32 >>> ((6 : Int32) &&& 31).toUInt32).toInt32)) (v := (.long (f ((pl.toUInt32 >>> ((6 : Int32) &&& 31).toUInt32).toInt32).toNatClampNeg))) (by rw [e1]; exact Ar2.1) (State.isArrayOf_alike (hZ).alike Ar2.2.1) Ar2.2.2 hin2 hat2 (g := (mkF m 8 #[.val (.ref ob), .val (.int pl), .unset, .unset, .unset, .unset] [(.int ((pl.toUInt32 >>> ((6 : Int32) &&& 31).toUInt32).toInt32)), (.ref wa)])) rfl rfl (hb hby d9_8) _ ?_
    show Steps p.tables e below (T1.setTop (mkF m 9 #[.val (.ref ob), .val (.int pl), .unset, .unset, .unset, .unset] [(.long (f ((pl.toUInt32 >>> ((6 : Int32) &&& 31).toUInt32).toInt32).toNatClampNeg))])) _
    refine XS.lstoreN X1.here hx rfl (hb hby d9_9) rfl (l' := #[.val (.ref ob), .val (.int pl), .val (.long (f ((pl.toUInt32 >>> ((6 : Int32) &&& 31).toUInt32).toInt32).toNatClampNeg)), .second, .unset, .unset]) rfl ?_
    show Steps p.tables e below (T1.setTop (mkF m 10 #[.val (.ref ob), .val (.int pl), .val (.long (f ((pl.toUInt32 >>> ((6 : Int32) &&& 31).toUInt32).toInt32).toNatClampNeg)), .second, .unset, .unset] [])) _
    refine XS.lloadN X1.here hx rfl (hb hby d9_10) rfl ?_
    show Steps p.tables e below (T1.setTop (mkF m 11 #[.val (.ref ob), .val (.int pl), .val (.long (f ((pl.toUInt32 >>> ((6 : Int32) &&& 31).toUInt32).toInt32).toNatClampNeg)), .second, .unset, .unset] [(.long (f ((pl.toUInt32 >>> ((6 : Int32) &&& 31).toUInt32).toInt32).toNatClampNeg))])) _
    refine XS.lconst X1.here hx rfl (hb hby d9_11) ?_
    show Steps p.tables e below (T1.setTop (mkF m 12 #[.val (.ref ob), .val (.int pl), .val (.long (f ((pl.toUInt32 >>> ((6 : Int32) &&& 31).toUInt32).toInt32).toNatClampNeg)), .second, .unset, .unset] [(.long (1 : Int64)), (.long (f ((pl.toUInt32 >>> ((6 : Int32) &&& 31).toUInt32).toInt32).toNatClampNeg))])) _
    refine XS.iloadN X1.here hx rfl (hb hby d9_12) rfl ?_
    show Steps p.tables e below (T1.setTop (mkF m 13 #[.val (.ref ob), .val (.int pl), .val (.long (f ((pl.toUInt32 >>> ((6 : Int32) &&& 31).toUInt32).toInt32).toNatClampNeg)), .second, .unset, .unset] [(.int pl), (.long (1 : Int64)), (.long (f ((pl.toUInt32 >>> ((6 : Int32) &&& 31).toUInt32).toInt32).toNatClampNeg))])) _
    refine XT.lshl X1.here hx rfl (hb hby d9_13) rfl ?_
    show Steps p.tables e below (T1.setTop (mkF m 14 #[.val (.ref ob), .val (.int pl), .val (.long (f ((pl.toUInt32 >>> ((6 : Int32) &&& 31).toUInt32).toInt32).toNatClampNeg)), .second, .unset, .unset] [(.long ((1 : Int64) <<< (pl.toInt64 &&& 63))), (.long (f ((pl.toUInt32 >>> ((6 : Int32) &&& 31).toUInt32).toInt32).toNatClampNeg))])) _
    refine XS.lor X1.here hx rfl (hb hby d9_14) rfl ?_
    show Steps p.tables e below (T1.setTop (mkF m 15 #[.val (.ref ob), .val (.int pl), .val (.long (f ((pl.toUInt32 >>> ((6 : Int32) &&& 31).toUInt32).toInt32).toNatClampNeg)), .second, .unset, .unset] [(.long ((f ((pl.toUInt32 >>> ((6 : Int32) &&& 31).toUInt32).toInt32).toNatClampNeg) ||| ((1 : Int64) <<< (pl.toInt64 &&& 63))))])) _
    refine XS.lstore X1.here hx rfl (hb hby d9_15) rfl (l' := #[.val (.ref ob), .val (.int pl), .val (.long (f ((pl.toUInt32 >>> ((6 : Int32) &&& 31).toUInt32).toInt32).toNatClampNeg)), .second, .val (.long ((f ((pl.toUInt32 >>> ((6 : Int32) &&& 31).toUInt32).toInt32).toNatClampNeg) ||| ((1 : Int64) <<< (pl.toInt64 &&& 63)))), .second]) rfl ?_
    show Steps p.tables e below (T1.setTop (mkF m 17 #[.val (.ref ob), .val (.int pl), .val (.long (f ((pl.toUInt32 >>> ((6 : Int32) &&& 31).toUInt32).toInt32).toNatClampNeg)), .second, .val (.long ((f ((pl.toUInt32 >>> ((6 : Int32) &&& 31).toUInt32).toInt32).toNatClampNeg) ||| ((1 : Int64) <<< (pl.toInt64 &&& 63)))), .second] [])) _
    refine XS.lload X1.here hx rfl (hb hby d9_17) rfl ?_
    show Steps p.tables e below (T1.setTop (mkF m 19 #[.val (.ref ob), .val (.int pl), .val (.long (f ((pl.toUInt32 >>> ((6 : Int32) &&& 31).toUInt32).toInt32).toNatClampNeg)), .second, .val (.long ((f ((pl.toUInt32 >>> ((6 : Int32) &&& 31).toUInt32).toInt32).toNatClampNeg) ||| ((1 : Int64) <<< (pl.toInt64 &&& 63)))), .second] [(.long ((f ((pl.toUInt32 >>> ((6 : Int32) &&& 31).toUInt32).toInt32).toNatClampNeg) ||| ((1 : Int64) <<< (pl.toInt64 &&& 63))))])) _
    refine XS.lloadN X1.here hx rfl (hb hby d9_19) rfl ?_
    show Steps p.tables e below (T1.setTop (mkF m 20 #[.val (.ref ob), .val (.int pl), .val (.long (f ((pl.toUInt32 >>> ((6 : Int32) &&& 31).toUInt32).toInt32).toNatClampNeg)), .second, .val (.long ((f ((pl.toUInt32 >>> ((6 : Int32) &&& 31).toUInt32).toInt32).toNatClampNeg) ||| ((1 : Int64) <<< (pl.toInt64 &&& 63)))), .second] [(.long (f ((pl.toUInt32 >>> ((6 : Int32) &&& 31).toUInt32).toInt32).toNatClampNeg)), (.long ((f ((pl.toUInt32 >>> ((6 : Int32) &&& 31).toUInt32).toInt32).toNatClampNeg) ||| ((1 : Int64) <<< (pl.toInt64 &&& 63))))])) _
    refine XS.lcmp X1.here hx rfl (hb hby d9_20) rfl ?_
    show Steps p.tables e below (T1.setTop (mkF m 21 #[.val (.ref ob), .val (.int pl), .val (.long (f ((pl.toUInt32 >>> ((6 : Int32) &&& 31).toUInt32).toInt32).toNatClampNeg)), .second, .val (.long ((f ((pl.toUInt32 >>> ((6 : Int32) &&& 31).toUInt32).toInt32).toNatClampNeg) ||| ((1 : Int64) <<< (pl.toInt64 &&& 63)))), .second] [(.int (lcmpW ((f ((pl.toUInt32 >>> ((6 : Int32) &&& 31).toUInt32).toInt32).toNatClampNeg) ||| ((1 : Int64) <<< (pl.toInt64 &&& 63))) (f ((pl.toUInt32 >>> ((6 : Int32) &&& 31).toUInt32).toInt32).toNatClampNeg)))])) _
    refine XS.ifNo X1.here hx rfl (hb hby d9_21) rfl ((if0 _ _).trans (teq hcn).2) ?_
    show Steps p.tables e below (T1.setTop (mkF m 24 #[.val (.ref ob), .val (.int pl), .val (.long (f ((pl.toUInt32 >>> ((6 : Int32) &&& 31).toUInt32).toInt32).toNatClampNeg)), .second, .val (.long ((f ((pl.toUInt32 >>> ((6 : Int32) &&& 31).toUInt32).toInt32).toNatClampNeg) ||| ((1 : Int64) <<< (pl.toInt64 &&& 63)))), .second] [])) _
    refine XS.aconstNull X1.here hx rfl (hb hby d9_24) ?_
    show Steps p.tables e below (T1.setTop (mkF m 25 #[.val (.ref ob), .val (.int pl), .val (.long (f ((pl.toUInt32 >>> ((6 : Int32) &&& 31).toUInt32).toInt32).toNatClampNeg)), .second, .val (.long ((f ((pl.toUInt32 >>> ((6 : Int32) &&& 31).toUInt32).toInt32).toNatClampNeg) ||| ((1 : Int64) <<< (pl.toInt64 &&& 63)))), .second] [.null])) _
    exact retOut X1 hx Bd.returns rfl (Or.inr (Or.inr (Or.inr (Or.inr ⟨rfl, rfl, rfl⟩)))) (hb hby d9_25) hr
  · show Q9n Z ob pl wa f cd h0 n0 _ T1.heap _
    rw [e1]
    exact ⟨rfl, N0, rfl⟩
theorem d9_26 : decode prog_23_method_6_code 26 = .ok (.aload_n 0, 1) := by decide +kernel
theorem d9_27 : decode prog_23_method_6_code 27 = .ok (.getfield 16, 3) := by decide +kernel
theorem d9_30 : decode prog_23_method_6_code 30 = .ok (.iload_n 1, 1) := by decide +kernel
theorem d9_31 : decode prog_23_method_6_code 31 = .ok (.bipush 6, 2) := by decide +kernel
theorem d9_33 : decode prog_23_method_6_code 33 = .ok (.iushr, 1) := by decide +kernel
theorem d9_34 : decode prog_23_method_6_code 34 = .ok (.lload 4, 2) := by decide +kernel
theorem d9_36 : decode prog_23_method_6_code 36 = .ok (.lastore, 1) := by decide +kernel
theorem d9_37 : decode prog_23_method_6_code 37 = .ok (.aload_n 0, 1) := by decide +kernel
theorem d9_38 : decode prog_23_method_6_code 38 = .ok (.dup, 1) := by decide +kernel
theorem d9_39 : decode prog_23_method_6_code 39 = .ok (.getfield 20, 3) := by decide +kernel
theorem d9_42 : decode prog_23_method_6_code 42 = .ok (.iconst 1, 1) := by decide +kernel
theorem d9_43 : decode prog_23_method_6_code 43 = .ok (.iadd, 1) := by decide +kernel
theorem d9_44 : decode prog_23_method_6_code 44 = .ok (.putfield 20, 3) := by decide +kernel
theorem d9_47 : decode prog_23_method_6_code 47 = .ok (.aload_n 0, 1) := by decide +kernel
theorem d9_48 : decode prog_23_method_6_code 48 = .ok (.areturn, 1) := by decide +kernel
theorem ef_rm9y (m : MethodId) (x0 : Addr) (x1 : Int32) : entryFrame m #[(.ref x0), (.int x1)] 6 = mkF m 0 #[.val (.ref x0), .val (.int x1), .unset, .unset, .unset, .unset] [] := by first | (simp [entryFrame, mkF, argsToLocals, Value.category]; done) | rfl
def Q9y (Z : State) (ob : Addr) (pl : Int32) (wa : Addr) (f : Nat → Int64) (cd : Int32) (h0 : Heap) (n0 : Nat) (v : Option Value) (h : Heap) (L : List Loc) : Prop := ∃ f1 : Nat → Int64, v = some (.ref ob) ∧ Fr n0 L ∧ Keep h0 h [ob, wa] ∧ Exa Z h ob "com/example/bitgrove/bitgrove/HeapBitmapContainer" ∧ Fld Z h ob "com/example/bitgrove/bitgrove/HeapBitmapContainer" "words" "[J" (.ref wa) ∧ Fld Z h ob "com/example/bitgrove/bitgrove/HeapBitmapContainer" "cardinality" "I" (.int (cd + (1 : Int32))) ∧ LA Z h wa f1 ∧ f1 = fun k => if k = ((pl.toUInt32 >>> ((6 : Int32) &&& 31).toUInt32).toInt32).toNatClampNeg then ((f ((pl.toUInt32 >>> ((6 : Int32) &&& 31).toUInt32).toInt32).toNatClampNeg) ||| ((1 : Int64) <<< (pl.toInt64 &&& 63))) else f k
set_option maxRecDepth 65536 in
set_option maxHeartbeats 40000000 in
theorem rm9y (l : Launch) (Z : State) (a0 : Array Value) (hw : ∀ d ∈ tables_1, d.before a0 Z = true) (ws : List Jvm.Cond) (ob : Addr) (pl : Int32) (wa : Addr) (f : Nat → Int64) (cd : Int32) (h0 : Heap) (n0 : Nat) (Z0 : n0 ≤ h0.size) (E_ob : Exa Z h0 ob "com/example/bitgrove/bitgrove/HeapBitmapContainer") (F_words : Fld Z h0 ob "com/example/bitgrove/bitgrove/HeapBitmapContainer" "words" "[J" (.ref wa)) (F_card : Fld Z h0 ob "com/example/bitgrove/bitgrove/HeapBitmapContainer" "cardinality" "I" (.int cd)) (V0 : LA Z h0 wa f) (g_ob : n0 ≤ ob) (g_wa : n0 ≤ wa) (hne : ob ≠ wa) (ra : 0 ≤ ((pl.toUInt32 >>> ((6 : Int32) &&& 31).toUInt32).toInt32).toInt) (rb : ((pl.toUInt32 >>> ((6 : Int32) &&& 31).toUInt32).toInt32).toInt < 1024) (hcn : ¬ ((lcmpW ((f ((pl.toUInt32 >>> ((6 : Int32) &&& 31).toUInt32).toInt32).toNatClampNeg) ||| ((1 : Int64) <<< (pl.toInt64 &&& 63))) (f ((pl.toUInt32 >>> ((6 : Int32) &&& 31).toUInt32).toInt32).toNatClampNeg)) = (0 : Int32))) :
    MetFree l (⟨"com/example/bitgrove/bitgrove/HeapBitmapContainer", "add", "(I)Lcom/example/bitgrove/bitgrove/Container;"⟩ : MethodName) (head1 (Jvm.Cond.code (⟨"com/example/bitgrove/bitgrove/HeapBitmapContainer", "add", "(I)Lcom/example/bitgrove/bitgrove/Container;"⟩ : MethodName) prog_23_method_6_code 6 (some (.object "com/example/bitgrove/bitgrove/Container")) :: ws) ({ frames := 0, cells := 0, slots := 0, locals := 0 } : Room)) (fun a U => a = #[(.ref ob), (.int pl)] ∧ Z.Warmed39 U.vm ∧ U.heap = h0) (fun _ _ _ _ _ => True) (fun _ U o U' => ∃ v L, o = .returned v ∧ Q9y Z ob pl wa f cd h0 n0 v U'.heap L ∧ FrameEnd U o U' L ({ frames := 0, cells := 0, slots := 0, locals := 0 } : Room).cells ({ frames := 0, cells := 0, slots := 0, locals := 0 } : Room).slots) := by
  refine MetFree.of_bodySF (plainFor_of_name pn_4) hisR ?_
  intro p e s m args below meth c s₁ Bd hml0 hP hK
  obtain ⟨rfl, hZ, hh⟩ := hP
  have hx := Bd.exec
  have hby := Bd.bytes
  have hml : c.maxLocals = 6 := hml0
  have hown : s.vm.findClass "com/example/bitgrove/bitgrove/HeapBitmapContainer" = some m.cls := findClass_of_methodNamed Bd.named
  have hnm := (name_of_methodNamed Bd.named Bd.method).1
  have X0 : Stand p l e ({ frames := 0, cells := 0, slots := 0, locals := 0 } : Room) s m #[(.ref ob), (.int pl)] below meth c s₁ [] 0 0 := Stand.of_body Bd
  have e0 : s₁.heap = h0 := by rw [← hh, Bd.state]; rfl
  have N0 := Fr.nil n0
  have pre0 : ∀ t, Steps p.tables e below (s₁.setTop (mkF m 0 #[.val (.ref ob), .val (.int pl), .unset, .unset, .unset, .unset] [])) t → Steps p.tables e below (s₁.setTop (entryFrame m #[(.ref ob), (.int pl)] 6)) t := fun t k => castTop (ef_rm9y m ob pl) k
  obtain ⟨T1, X1, e1, st1⟩ := getF X0 hx hZ hown (host := "") (Or.inl (hw _ (List.mem_of_getElem? (i := 43) rfl))) Via.refl e0 F_words (g := (mkF m 1 #[.val (.ref ob), .val (.int pl), .unset, .unset, .unset, .unset] [(.ref ob)])) rfl rfl (hb hby d9_1)
  obtain ⟨cl2, Ar2, hz2, he2⟩ := (id V0)
  have hin2 := own_in hz2 (j := ((pl.toUInt32 >>> ((6 : Int32) &&& 31).toUInt32).toInt32)) ra rb
  have hat2 : cl2.slots[((pl.toUInt32 >>> ((6 : Int32) &&& 31).toUInt32).toInt32).toNatClampNeg]? = some (.long (f ((pl.toUInt32 >>> ((6 : Int32) &&& 31).toUInt32).toInt32).toNatClampNeg)) := he2 _ (by have := own_nat (j := ((pl.toUInt32 >>> ((6 : Int32) &&& 31).toUInt32).toInt32)) ra; have := rb; omega)
  obtain ⟨T3, X3, e3, st3⟩ := getF X1 hx hZ hown (host := "") (Or.inl (hw _ (List.mem_of_getElem? (i := 43) rfl))) Via.refl e1 F_words (g := (mkF m 27 #[.val (.ref ob), .val (.int pl), .val (.long (f ((pl.toUInt32 >>> ((6 : Int32) &&& 31).toUInt32).toInt32).toNatClampNeg)), .second, .val (.long ((f ((pl.toUInt32 >>> ((6 : Int32) &&& 31).toUInt32).toInt32).toNatClampNeg) ||| ((1 : Int64) <<< (pl.toInt64 &&& 63)))), .second] [(.ref ob)])) rfl rfl (hb hby d9_27)
  have Vk4 := V0
  obtain ⟨cl4, Ar4, hz4, he4⟩ := Vk4
  have hin4 := own_in hz4 (j := ((pl.toUInt32 >>> ((6 : Int32) &&& 31).toUInt32).toInt32)) ra rb
  obtain ⟨T5, h5, X5, e5, W5, st5⟩ := stJ X3 hx hZ e3 Ar4 (j := ((pl.toUInt32 >>> ((6 : Int32) &&& 31).toUInt32).toInt32)) hin4 (g := (mkF m 36 #[.val (.ref ob), .val (.int pl), .val (.long (f ((pl.toUInt32 >>> ((6 : Int32) &&& 31).toUInt32).toInt32).toNatClampNeg)), .second, .val (.long ((f ((pl.toUInt32 >>> ((6 : Int32) &&& 31).toUInt32).toInt32).toNatClampNeg) ||| ((1 : Int64) <<< (pl.toInt64 &&& 63)))), .second] [(.long ((f ((pl.toUInt32 >>> ((6 : Int32) &&& 31).toUInt32).toInt32).toNatClampNeg) ||| ((1 : Int64) <<< (pl.toInt64 &&& 63)))), (.int ((pl.toUInt32 >>> ((6 : Int32) &&& 31).toUInt32).toInt32)), (.ref wa)])) rfl rfl (hb hby d9_36)
  have Kc5 : Keep h0 h5 [ob, wa] := (Keep.refl h0 [ob, wa]).wr W5 (Or.inl (List.mem_of_getElem? (i := 1) rfl))
  have N5 := Fr.snoc X5 N0 g_wa
  obtain ⟨f5, hf_f5⟩ : ∃ g : Nat → Int64, g = fun k => if k = ((pl.toUInt32 >>> ((6 : Int32) &&& 31).toUInt32).toInt32).toNatClampNeg then ((f ((pl.toUInt32 >>> ((6 : Int32) &&& 31).toUInt32).toInt32).toNatClampNeg) ||| ((1 : Int64) <<< (pl.toInt64 &&& 63))) else f k := ⟨_, rfl⟩
  have V5 : LA Z h5 wa f5 := by rw [hf_f5]; exact LA.set (f := f) V0 W5
  obtain ⟨T6, X6, e6, st6⟩ := getF X5 hx hZ hown (host := "") (Or.inl (hw _ (List.mem_of_getElem? (i := 45) rfl))) Via.refl e5 (F_card.other W5 (Or.inl hne)) (g := (mkF m 39 #[.val (.ref ob), .val (.int pl), .val (.long (f ((pl.toUInt32 >>> ((6 : Int32) &&& 31).toUInt32).toInt32).toNatClampNeg)), .second, .val (.long ((f ((pl.toUInt32 >>> ((6 : Int32) &&& 31).toUInt32).toInt32).toNatClampNeg) ||| ((1 : Int64) <<< (pl.toInt64 &&& 63)))), .second] [(.ref ob), (.ref ob)])) rfl rfl (hb hby d9_39)
  obtain ⟨T7, h7, X7, e7, W7, st7⟩ := putF X6 hx hZ hown (host := "") (Or.inl (hw _ (List.mem_of_getElem? (i := 45) rfl))) Via.refl e6 (F_card.other W5 (Or.inl hne)) (E_ob.wr W5) (Or.inl (hw _ (List.mem_of_getElem? (i := 46) rfl))) (hw _ (List.mem_of_getElem? (i := 26) rfl)) (ty := .int) (by decide) rfl rfl (g := (mkF m 44 #[.val (.ref ob), .val (.int pl), .val (.long (f ((pl.toUInt32 >>> ((6 : Int32) &&& 31).toUInt32).toInt32).toNatClampNeg)), .second, .val (.long ((f ((pl.toUInt32 >>> ((6 : Int32) &&& 31).toUInt32).toInt32).toNatClampNeg) ||| ((1 : Int64) <<< (pl.toInt64 &&& 63)))), .second] [(.int (cd + (1 : Int32))), (.ref ob)])) rfl rfl (hb hby d9_44)
  have Kc7 : Keep h0 h7 [ob, wa] := Kc5.wr W7 (Or.inl (List.mem_of_getElem? (i := 0) rfl))
  have N7 := Fr.snoc X7 N5 g_ob
  have Fw7 : Fld Z h7 ob "com/example/bitgrove/bitgrove/HeapBitmapContainer" "cardinality" "I" (.int (cd + (1 : Int32))) := (F_card.other W5 (Or.inl hne)).same W7
  obtain ⟨fs, hr, hrun, hended, hW, hsame⟩ := X7.leave (v := some (.ref ob)) (fun h => by rw [Bd.returns] at h; cases h)
  refine ⟨_, _, pre0 _ ?_, hrun, hended, _, _, rfl, ?_, ⟨_, rfl⟩, hW, hsame.mono (by decide) (by decide)⟩
  · show Steps p.tables e below (s₁.setTop (mkF m 0 #[.val (.ref ob), .val (.int pl), .unset, .unset, .unset, .unset] [])) _
    refine XS.aloadN X0.here hx rfl (hb hby d9_0) rfl rfl ?_
    show Steps p.tables e below (s₁.setTop (mkF m 1 #[.val (.ref ob), .val (.int pl), .unset, .unset, .unset, .unset] [(.ref ob)])) _
    refine st1 _ ?_
    show Steps p.tables e below (T1.setTop (mkF m 4 #[.val (.ref ob), .val (.int pl), .unset, .unset, .unset, .unset] [(.ref wa)])) _
    refine XS.iloadN X1.here hx rfl (hb hby d9_4) rfl ?_
    show Steps p.tables e below (T1.setTop (mkF m 5 #[.val (.ref ob), .val (.int pl), .unset, .unset, .unset, .unset] [(.int pl), (.ref wa)])) _
    refine XS.bipush X1.here hx rfl (hb hby d9_5) ?_
    show Steps p.tables e below (T1.setTop (mkF m 7 #[.val (.ref ob), .val (.int pl), .unset, .unset, .unset, .unset] [(.int (6 : Int32)), (.int pl), (.ref wa)])) _
    refine XS.iushr X1.here hx rfl (hb hby d9_7) rfl ?_
    show Steps p.tables e below (T1.setTop (mkF m 8 #[.val (.ref ob), .val (.int pl), .unset, .unset, .unset, .unset] [(.int ((pl.toUInt32 >>> ((6 : Int32) &&& 31).toUInt32).toInt32)), (.ref wa)])) _
    refine X1.laload hx (j := ((pl.toUInt32 >>> ((6 : Int32) &&& 31).toUInt32).toInt32)) (v := (.long (f ((pl.toUInt32 >>> ((6 : Int32) &&& 31).toUInt32).toInt32).toNatClampNeg))) (by rw [e1]; exact Ar2.1) (State.isArrayOf_alike (hZ).alike Ar2.2.1) Ar2.2.2 hin2 hat2 (g := (mkF m 8 #[.val (.ref ob), .val (.int pl), .unset, .unset, .unset, .unset] [(.int ((pl.toUInt32 >>> ((6 : Int32) &&& 31).toUInt32).toInt32)), (.ref wa)])) rfl rfl (hb hby d9_8) _ ?_
    show Steps p.tables e below (T1.setTop (mkF m 9 #[.val (.ref ob), .val (.int pl), .unset, .unset, .unset, .unset] [(.long (f ((pl.toUInt32 >>> ((6 : Int32) &&& 31).toUInt32).toInt32).toNatClampNeg))])) _
    refine XS.lstoreN X1.here hx rfl (hb hby d9_9) rfl (l' := #[.val (.ref ob), .val (.int pl), .val (.long (f ((pl.toUInt32 >>> ((6 : Int32) &&& 31).toUInt32).toInt32).toNatClampNeg)), .second, .unset, .unset]) rfl ?_
    show Steps p.tables e below (T1.setTop (mkF m 10 #[.val (.ref ob), .val (.int pl), .val (.long (f ((pl.toUInt32 >>> ((6 : Int32) &&& 31).toUInt32).toInt32).toNatClampNeg)), .second, .unset, .unset] [])) _
    refine XS.lloadN X1.here hx rfl (hb hby d9_10) rfl ?_
    show Steps p.tables e below (T1.setTop (mkF m 11 #[.val (.ref ob), .val (.int pl), .val (.long (f ((pl.toUInt32 >>> ((6 : Int32) &&& 31).toUInt32).toInt32).toNatClampNeg)), .second, .unset, .unset] [(.long (f ((pl.toUInt32 >>> ((6 : Int32) &&& 31).toUInt32).toInt32).toNatClampNeg))])) _
    refine XS.lconst X1.here hx rfl (hb hby d9_11) ?_
    show Steps p.tables e below (T1.setTop (mkF m 12 #[.val (.ref ob), .val (.int pl), .val (.long (f ((pl.toUInt32 >>> ((6 : Int32) &&& 31).toUInt32).toInt32).toNatClampNeg)), .second, .unset, .unset] [(.long (1 : Int64)), (.long (f ((pl.toUInt32 >>> ((6 : Int32) &&& 31).toUInt32).toInt32).toNatClampNeg))])) _
    refine XS.iloadN X1.here hx rfl (hb hby d9_12) rfl ?_
    show Steps p.tables e below (T1.setTop (mkF m 13 #[.val (.ref ob), .val (.int pl), .val (.long (f ((pl.toUInt32 >>> ((6 : Int32) &&& 31).toUInt32).toInt32).toNatClampNeg)), .second, .unset, .unset] [(.int pl), (.long (1 : Int64)), (.long (f ((pl.toUInt32 >>> ((6 : Int32) &&& 31).toUInt32).toInt32).toNatClampNeg))])) _
    refine XT.lshl X1.here hx rfl (hb hby d9_13) rfl ?_
    show Steps p.tables e below (T1.setTop (mkF m 14 #[.val (.ref ob), .val (.int pl), .val (.long (f ((pl.toUInt32 >>> ((6 : Int32) &&& 31).toUInt32).toInt32).toNatClampNeg)), .second, .unset, .unset] [(.long ((1 : Int64) <<< (pl.toInt64 &&& 63))), (.long (f ((pl.toUInt32 >>> ((6 : Int32) &&& 31).toUInt32).toInt32).toNatClampNeg))])) _
    refine XS.lor X1.here hx rfl (hb hby d9_14) rfl ?_
    show Steps p.tables e below (T1.setTop (mkF m 15 #[.val (.ref ob), .val (.int pl), .val (.long (f ((pl.toUInt32 >>> ((6 : Int32) &&& 31).toUInt32).toInt32).toNatClampNeg)), .second, .unset, .unset] [(.long ((f ((pl.toUInt32 >>> ((6 : Int32) &&& 31).toUInt32).toInt32).toNatClampNeg) ||| ((1 : Int64) <<< (pl.toInt64 &&& 63))))])) _
    refine XS.lstore X1.here hx rfl (hb hby d9_15) rfl (l' := #[.val (.ref ob), .val (.int pl), .val (.long (f ((pl.toUInt32 >>> ((6 : Int32) &&& 31).toUInt32).toInt32).toNatClampNeg)), .second, .val (.long ((f ((pl.toUInt32 >>> ((6 : Int32) &&& 31).toUInt32).toInt32).toNatClampNeg) ||| ((1 : Int64) <<< (pl.toInt64 &&& 63)))), .second]) rfl ?_
    show Steps p.tables e below (T1.setTop (mkF m 17 #[.val (.ref ob), .val (.int pl), .val (.long (f ((pl.toUInt32 >>> ((6 : Int32) &&& 31).toUInt32).toInt32).toNatClampNeg)), .second, .val (.long ((f ((pl.toUInt32 >>> ((6 : Int32) &&& 31).toUInt32).toInt32).toNatClampNeg) ||| ((1 : Int64) <<< (pl.toInt64 &&& 63)))), .second] [])) _
    refine XS.lload X1.here hx rfl (hb hby d9_17) rfl ?_
    show Steps p.tables e below (T1.setTop (mkF m 19 #[.val (.ref ob), .val (.int pl), .val (.long (f ((pl.toUInt32 >>> ((6 : Int32) &&& 31).toUInt32).toInt32).toNatClampNeg)), .second, .val (.long ((f ((pl.toUInt32 >>> ((6 : Int32) &&& 31).toUInt32).toInt32).toNatClampNeg) ||| ((1 : Int64) <<< (pl.toInt64 &&& 63)))), .second] [(.long ((f ((pl.toUInt32 >>> ((6 : Int32) &&& 31).toUInt32).toInt32).toNatClampNeg) ||| ((1 : Int64) <<< (pl.toInt64 &&& 63))))])) _
    refine XS.lloadN X1.here hx rfl (hb hby d9_19) rfl ?_
    show Steps p.tables e below (T1.setTop (mkF m 20 #[.val (.ref ob), .val (.int pl), .val (.long (f ((pl.toUInt32 >>> ((6 : Int32) &&& 31).toUInt32).toInt32).toNatClampNeg)), .second, .val (.long ((f ((pl.toUInt32 >>> ((6 : Int32) &&& 31).toUInt32).toInt32).toNatClampNeg) ||| ((1 : Int64) <<< (pl.toInt64 &&& 63)))), .second] [(.long (f ((pl.toUInt32 >>> ((6 : Int32) &&& 31).toUInt32).toInt32).toNatClampNeg)), (.long ((f ((pl.toUInt32 >>> ((6 : Int32) &&& 31).toUInt32).toInt32).toNatClampNeg) ||| ((1 : Int64) <<< (pl.toInt64 &&& 63))))])) _
    refine XS.lcmp X1.here hx rfl (hb hby d9_20) rfl ?_
    show Steps p.tables e below (T1.setTop (mkF m 21 #[.val (.ref ob), .val (.int pl), .val (.long (f ((pl.toUInt32 >>> ((6 : Int32) &&& 31).toUInt32).toInt32).toNatClampNeg)), .second, .val (.long ((f ((pl.toUInt32 >>> ((6 : Int32) &&& 31).toUInt32).toInt32).toNatClampNeg) ||| ((1 : Int64) <<< (pl.toInt64 &&& 63)))), .second] [(.int (lcmpW ((f ((pl.toUInt32 >>> ((6 : Int32) &&& 31).toUInt32).toInt32).toNatClampNeg) ||| ((1 : Int64) <<< (pl.toInt64 &&& 63))) (f ((pl.toUInt32 >>> ((6 : Int32) &&& 31).toUInt32).toInt32).toNatClampNeg)))])) _
    refine XS.ifYes X1.here hx rfl (pc0 := 21) (pc' := 26) rfl (hb hby d9_21) rfl ((if0 _ _).trans (feq hcn).2) (by decide) (by decide) ?_
    show Steps p.tables e below (T1.setTop (mkF m 26 #[.val (.ref ob), .val (.int pl), .val (.long (f ((pl.toUInt32 >>> ((6 : Int32) &&& 31).toUInt32).toInt32).toNatClampNeg)), .second, .val (.long ((f ((pl.toUInt32 >>> ((6 : Int32) &&& 31).toUInt32).toInt32).toNatClampNeg) ||| ((1 : Int64) <<< (pl.toInt64 &&& 63)))), .second] [])) _
    refine XS.aloadN X1.here hx rfl (hb hby d9_26) rfl rfl ?_
    show Steps p.tables e below (T1.setTop (mkF m 27 #[.val (.ref ob), .val (.int pl), .val (.long (f ((pl.toUInt32 >>> ((6 : Int32) &&& 31).toUInt32).toInt32).toNatClampNeg)), .second, .val (.long ((f ((pl.toUInt32 >>> ((6 : Int32) &&& 31).toUInt32).toInt32).toNatClampNeg) ||| ((1 : Int64) <<< (pl.toInt64 &&& 63)))), .second] [(.ref ob)])) _
    refine st3 _ ?_
    show Steps p.tables e below (T3.setTop (mkF m 30 #[.val (.ref ob), .val (.int pl), .val (.long (f ((pl.toUInt32 >>> ((6 : Int32) &&& 31).toUInt32).toInt32).toNatClampNeg)), .second, .val (.long ((f ((pl.toUInt32 >>> ((6 : Int32) &&& 31).toUInt32).toInt32).toNatClampNeg) ||| ((1 : Int64) <<< (pl.toInt64 &&& 63)))), .second] [(.ref wa)])) _
    refine XS.iloadN X3.here hx rfl (hb hby d9_30) rfl ?_
    show Steps p.tables e below (T3.setTop (mkF m 31 #[.val (.ref ob), .val (.int pl), .val (.long (f ((pl.toUInt32 >>> ((6 : Int32) &&& 31).toUInt32).toInt32).toNatClampNeg)), .second, .val (.long ((f ((pl.toUInt32 >>> ((6 : Int32) &&& 31).toUInt32).toInt32).toNatClampNeg) ||| ((1 : Int64) <<< (pl.toInt64 &&& 63)))), .second] [(.int pl), (.ref wa)])) _
    refine XS.bipush X3.here hx rfl (hb hby d9_31) ?_
    show Steps p.tables e below (T3.setTop (mkF m 33 #[.val (.ref ob), .val (.int pl), .val (.long (f ((pl.toUInt32 >>> ((6 : Int32) &&& 31).toUInt32).toInt32).toNatClampNeg)), .second, .val (.long ((f ((pl.toUInt32 >>> ((6 : Int32) &&& 31).toUInt32).toInt32).toNatClampNeg) ||| ((1 : Int64) <<< (pl.toInt64 &&& 63)))), .second] [(.int (6 : Int32)), (.int pl), (.ref wa)])) _
    refine XS.iushr X3.here hx rfl (hb hby d9_33) rfl ?_
    show Steps p.tables e below (T3.setTop (mkF m 34 #[.val (.ref ob), .val (.int pl), .val (.long (f ((pl.toUInt32 >>> ((6 : Int32) &&& 31).toUInt32).toInt32).toNatClampNeg)), .second, .val (.long ((f ((pl.toUInt32 >>> ((6 : Int32) &&& 31).toUInt32).toInt32).toNatClampNeg) ||| ((1 : Int64) <<< (pl.toInt64 &&& 63)))), .second] [(.int ((pl.toUInt32 >>> ((6 : Int32) &&& 31).toUInt32).toInt32)), (.ref wa)])) _
    refine XS.lload X3.here hx rfl (hb hby d9_34) rfl ?_
    show Steps p.tables e below (T3.setTop (mkF m 36 #[.val (.ref ob), .val (.int pl), .val (.long (f ((pl.toUInt32 >>> ((6 : Int32) &&& 31).toUInt32).toInt32).toNatClampNeg)), .second, .val (.long ((f ((pl.toUInt32 >>> ((6 : Int32) &&& 31).toUInt32).toInt32).toNatClampNeg) ||| ((1 : Int64) <<< (pl.toInt64 &&& 63)))), .second] [(.long ((f ((pl.toUInt32 >>> ((6 : Int32) &&& 31).toUInt32).toInt32).toNatClampNeg) ||| ((1 : Int64) <<< (pl.toInt64 &&& 63)))), (.int ((pl.toUInt32 >>> ((6 : Int32) &&& 31).toUInt32).toInt32)), (.ref wa)])) _
    refine st5 _ ?_
    show Steps p.tables e below (T5.setTop (mkF m 37 #[.val (.ref ob), .val (.int pl), .val (.long (f ((pl.toUInt32 >>> ((6 : Int32) &&& 31).toUInt32).toInt32).toNatClampNeg)), .second, .val (.long ((f ((pl.toUInt32 >>> ((6 : Int32) &&& 31).toUInt32).toInt32).toNatClampNeg) ||| ((1 : Int64) <<< (pl.toInt64 &&& 63)))), .second] [])) _
    refine XS.aloadN X5.here hx rfl (hb hby d9_37) rfl rfl ?_
    show Steps p.tables e below (T5.setTop (mkF m 38 #[.val (.ref ob), .val (.int pl), .val (.long (f ((pl.toUInt32 >>> ((6 : Int32) &&& 31).toUInt32).toInt32).toNatClampNeg)), .second, .val (.long ((f ((pl.toUInt32 >>> ((6 : Int32) &&& 31).toUInt32).toInt32).toNatClampNeg) ||| ((1 : Int64) <<< (pl.toInt64 &&& 63)))), .second] [(.ref ob)])) _
    refine XS.dup X5.here hx rfl (hb hby d9_38) rfl rfl ?_
    show Steps p.tables e below (T5.setTop (mkF m 39 #[.val (.ref ob), .val (.int pl), .val (.long (f ((pl.toUInt32 >>> ((6 : Int32) &&& 31).toUInt32).toInt32).toNatClampNeg)), .second, .val (.long ((f ((pl.toUInt32 >>> ((6 : Int32) &&& 31).toUInt32).toInt32).toNatClampNeg) ||| ((1 : Int64) <<< (pl.toInt64 &&& 63)))), .second] [(.ref ob), (.ref ob)])) _
    refine st6 _ ?_
    show Steps p.tables e below (T6.setTop (mkF m 42 #[.val (.ref ob), .val (.int pl), .val (.long (f ((pl.toUInt32 >>> ((6 : Int32) &&& 31).toUInt32).toInt32).toNatClampNeg)), .second, .val (.long ((f ((pl.toUInt32 >>> ((6 : Int32) &&& 31).toUInt32).toInt32).toNatClampNeg) ||| ((1 : Int64) <<< (pl.toInt64 &&& 63)))), .second] [(.int cd), (.ref ob)])) _
    refine XS.iconst X6.here hx rfl (hb hby d9_42) ?_
    show Steps p.tables e below (T6.setTop (mkF m 43 #[.val (.ref ob), .val (.int pl), .val (.long (f ((pl.toUInt32 >>> ((6 : Int32) &&& 31).toUInt32).toInt32).toNatClampNeg)), .second, .val (.long ((f ((pl.toUInt32 >>> ((6 : Int32) &&& 31).toUInt32).toInt32).toNatClampNeg) ||| ((1 : Int64) <<< (pl.toInt64 &&& 63)))), .second] [(.int (1 : Int32)), (.int cd), (.ref ob)])) _
    refine XS.iadd X6.here hx rfl (hb hby d9_43) rfl ?_
    show Steps p.tables e below (T6.setTop (mkF m 44 #[.val (.ref ob), .val (.int pl), .val (.long (f ((pl.toUInt32 >>> ((6 : Int32) &&& 31).toUInt32).toInt32).toNatClampNeg)), .second, .val (.long ((f ((pl.toUInt32 >>> ((6 : Int32) &&& 31).toUInt32).toInt32).toNatClampNeg) ||| ((1 : Int64) <<< (pl.toInt64 &&& 63)))), .second] [(.int (cd + (1 : Int32))), (.ref ob)])) _
    refine st7 _ ?_
    show Steps p.tables e below (T7.setTop (mkF m 47 #[.val (.ref ob), .val (.int pl), .val (.long (f ((pl.toUInt32 >>> ((6 : Int32) &&& 31).toUInt32).toInt32).toNatClampNeg)), .second, .val (.long ((f ((pl.toUInt32 >>> ((6 : Int32) &&& 31).toUInt32).toInt32).toNatClampNeg) ||| ((1 : Int64) <<< (pl.toInt64 &&& 63)))), .second] [])) _
    refine XS.aloadN X7.here hx rfl (hb hby d9_47) rfl rfl ?_
    show Steps p.tables e below (T7.setTop (mkF m 48 #[.val (.ref ob), .val (.int pl), .val (.long (f ((pl.toUInt32 >>> ((6 : Int32) &&& 31).toUInt32).toInt32).toNatClampNeg)), .second, .val (.long ((f ((pl.toUInt32 >>> ((6 : Int32) &&& 31).toUInt32).toInt32).toNatClampNeg) ||| ((1 : Int64) <<< (pl.toInt64 &&& 63)))), .second] [(.ref ob)])) _
    exact retOut X7 hx Bd.returns rfl (Or.inr (Or.inr (Or.inr (Or.inr ⟨rfl, rfl, rfl⟩)))) (hb hby d9_48) hr
  · show Q9y Z ob pl wa f cd h0 n0 _ T7.heap _
    rw [e7]
    exact ⟨_, rfl, N7, Kc7, ((E_ob.wr W5).wr W7), ((F_words.other W5 (Or.inl hne)).other W7 (Or.inr (slot_ne (Or.inr (hw _ (List.mem_of_getElem? (i := 44) rfl))) (Or.inl (hw _ (List.mem_of_getElem? (i := 46) rfl))) (by decide) (t := (.array .long)) (t' := .int) (by decide) (by decide)))), Fw7, (V5.other W7 (Ne.symm hne)), hf_f5⟩
theorem d10_0 : decode prog_23_method_4_code 0 = .ok (.aload_n 0, 1) := by decide +kernel
theorem d10_1 : decode prog_23_method_4_code 1 = .ok (.getfield 16, 3) := by decide +kernel
theorem d10_4 : decode prog_23_method_4_code 4 = .ok (.iload_n 1, 1) := by decide +kernel
theorem d10_5 : decode prog_23_method_4_code 5 = .ok (.laload, 1) := by decide +kernel
theorem d10_6 : decode prog_23_method_4_code 6 = .ok (.lreturn, 1) := by decide +kernel
theorem ef_rm10 (m : MethodId) (x0 : Addr) (x1 : Int32) : entryFrame m #[(.ref x0), (.int x1)] 2 = mkF m 0 #[.val (.ref x0), .val (.int x1)] [] := by first | (simp [entryFrame, mkF, argsToLocals, Value.category]; done) | rfl
def Q10 (Z : State) (ob : Addr) (pi : Int32) (wa : Addr) (f : Nat → Int64) (h0 : Heap) (n0 : Nat) (v : Option Value) (h : Heap) (L : List Loc) : Prop := v = some (.long (f pi.toNatClampNeg)) ∧ Fr n0 L ∧ h = h0
set_option maxRecDepth 65536 in
set_option maxHeartbeats 40000000 in
theorem rm10 (l : Launch) (Z : State) (a0 : Array Value) (hw : ∀ d ∈ tables_1, d.before a0 Z = true) (ws : List Jvm.Cond) (ob : Addr) (pi : Int32) (wa : Addr) (f : Nat → Int64) (h0 : Heap) (n0 : Nat) (Z0 : n0 ≤ h0.size) (F_words : Fld Z h0 ob "com/example/bitgrove/bitgrove/HeapBitmapContainer" "words" "[J" (.ref wa)) (V0 : LA Z h0 wa f) (ra : 0 ≤ pi.toInt) (rb : pi.toInt < 1024) :
    MetFree l (⟨"com/example/bitgrove/bitgrove/HeapBitmapContainer", "word", "(I)J"⟩ : MethodName) (head1 (Jvm.Cond.code (⟨"com/example/bitgrove/bitgrove/HeapBitmapContainer", "word", "(I)J"⟩ : MethodName) prog_23_method_4_code 2 (some .long) :: ws) ({ frames := 0, cells := 0, slots := 0, locals := 0 } : Room)) (fun a U => a = #[(.ref ob), (.int pi)] ∧ Z.Warmed39 U.vm ∧ U.heap = h0) (fun _ _ _ _ _ => True) (fun _ U o U' => ∃ v L, o = .returned v ∧ Q10 Z ob pi wa f h0 n0 v U'.heap L ∧ FrameEnd U o U' L ({ frames := 0, cells := 0, slots := 0, locals := 0 } : Room).cells ({ frames := 0, cells := 0, slots := 0, locals := 0 } : Room).slots) := by
  refine MetFree.of_bodySF (plainFor_of_name pn_4) hisR ?_
  intro p e s m args below meth c s₁ Bd hml0 hP hK
  obtain ⟨rfl, hZ, hh⟩ := hP
  have hx := Bd.exec
  have hby := Bd.bytes
  have hml : c.maxLocals = 2 := hml0
  have hown : s.vm.findClass "com/example/bitgrove/bitgrove/HeapBitmapContainer" = some m.cls := findClass_of_methodNamed Bd.named
  have hnm := (name_of_methodNamed Bd.named Bd.method).1
  have X0 : Stand p l e ({ frames := 0, cells := 0, slots := 0, locals := 0 } : Room) s m #[(.ref ob), (.int pi)] below meth c s₁ [] 0 0 := Stand.of_body Bd
  have e0 : s₁.heap = h0 := by rw [← hh, Bd.state]; rfl
  have N0 := Fr.nil n0
  have pre0 : ∀ t, Steps p.tables e below (s₁.setTop (mkF m 0 #[.val (.ref ob), .val (.int pi)] [])) t → Steps p.tables e below (s₁.setTop (entryFrame m #[(.ref ob), (.int pi)] 2)) t := fun t k => castTop (ef_rm10 m ob pi) k
  obtain ⟨T1, X1, e1, st1⟩ := getF X0 hx hZ hown (host := "") (Or.inl (hw _ (List.mem_of_getElem? (i := 43) rfl))) Via.refl e0 F_words (g := (mkF m 1 #[.val (.ref ob), .val (.int pi)] [(.ref ob)])) rfl rfl (hb hby d10_1)
  obtain ⟨cl2, Ar2, hz2, he2⟩ := (id V0)
  have hin2 := own_in hz2 (j := pi) ra rb
  have hat2 : cl2.slots[pi.toNatClampNeg]? = some (.long (f pi.toNatClampNeg)) := he2 _ (by have := own_nat (j := pi) ra; have := rb; omega)
  obtain ⟨fs, hr, hrun, hended, hW, hsame⟩ := X1.leave (v := some (.long (f pi.toNatClampNeg))) (fun h => by rw [Bd.returns] at h; cases h)
  refine ⟨_, _, pre0 _ ?_, hrun, hended, _, _, rfl, ?_, ⟨_, rfl⟩, hW, hsame.mono (by decide) (by decide)⟩
  · show Steps p.tables e below (s₁.setTop (mkF m 0 #[.val (.ref ob), .val (.int pi)] [])) _
    refine XS.aloadN X0.here hx rfl (hb hby d10_0) rfl rfl ?_
    show Steps p.tables e below (s₁.setTop (mkF m 1 #[.val (.ref ob), .val (.int pi)] [(.ref ob)])) _
    refine st1 _ ?_
    show Steps p.tables e below (T1.setTop (mkF m 4 #[.val (.ref ob), .val (.int pi)] [(.ref wa)])) _
    refine XS.iloadN X1.here hx rfl (hb hby d10_4) rfl ?_
    show Steps p.tables e below (T1.setTop (mkF m 5 #[.val (.ref ob), .val (.int pi)] [(.int pi), (.ref wa)])) _
    refine X1.laload hx (j := pi) (v := (.long (f pi.toNatClampNeg))) (by rw [e1]; exact Ar2.1) (State.isArrayOf_alike (hZ).alike Ar2.2.1) Ar2.2.2 hin2 hat2 (g := (mkF m 5 #[.val (.ref ob), .val (.int pi)] [(.int pi), (.ref wa)])) rfl rfl (hb hby d10_5) _ ?_
    show Steps p.tables e below (T1.setTop (mkF m 6 #[.val (.ref ob), .val (.int pi)] [(.long (f pi.toNatClampNeg))])) _
    exact retOut X1 hx Bd.returns rfl (Or.inr (Or.inl ⟨rfl, rfl, _, rfl⟩)) (hb hby d10_6) hr
  · show Q10 Z ob pi wa f h0 n0 _ T1.heap _
    rw [e1]
    exact ⟨rfl, N0, rfl⟩
theorem d11_0 : decode prog_7_method_4_code 0 = .ok (.aload_n 0, 1) := by decide +kernel
theorem d11_1 : decode prog_7_method_4_code 1 = .ok (.iload_n 1, 1) := by decide +kernel
theorem d11_2 : decode prog_7_method_4_code 2 = .ok (.bipush 6, 2) := by decide +kernel
theorem d11_4 : decode prog_7_method_4_code 4 = .ok (.iushr, 1) := by decide +kernel
theorem d11_5 : decode prog_7_method_4_code 5 = .ok (.invokevirtual 11, 3) := by decide +kernel
theorem pd_3 : parseMethodDescriptor "(I)J" = some ⟨[.int], some .long⟩ := by decide +kernel
theorem d11_8 : decode prog_7_method_4_code 8 = .ok (.lconst 1, 1) := by decide +kernel
theorem d11_9 : decode prog_7_method_4_code 9 = .ok (.iload_n 1, 1) := by decide +kernel
theorem d11_10 : decode prog_7_method_4_code 10 = .ok (.lshl, 1) := by decide +kernel
theorem d11_11 : decode prog_7_method_4_code 11 = .ok (.land, 1) := by decide +kernel
theorem d11_12 : decode prog_7_method_4_code 12 = .ok (.lconst 0, 1) := by decide +kernel
theorem d11_13 : decode prog_7_method_4_code 13 = .ok (.lcmp, 1) := by decide +kernel
theorem d11_14 : decode prog_7_method_4_code 14 = .ok (.ifCond .eq 7, 3) := by decide +kernel
theorem d11_21 : decode prog_7_method_4_code 21 = .ok (.iconst 0, 1) := by decide +kernel
theorem d11_22 : decode prog_7_method_4_code 22 = .ok (.ireturn, 1) := by decide +kernel
theorem d11_17 : decode prog_7_method_4_code 17 = .ok (.iconst 1, 1) := by decide +kernel
theorem d11_18 : decode prog_7_method_4_code 18 = .ok (.goto 4, 3) := by decide +kernel
theorem ef_rm11 (m : MethodId) (x0 : Addr) (x1 : Int32) : entryFrame m #[(.ref x0), (.int x1)] 2 = mkF m 0 #[.val (.ref x0), .val (.int x1)] [] := by first | (simp [entryFrame, mkF, argsToLocals, Value.category]; done) | rfl
def contF (pl : Int32) (f : Nat → Int64) : Int32 :=
  if (lcmpW ((f ((pl.toUInt32 >>> ((6 : Int32) &&& 31).toUInt32).toInt32).toNatClampNeg) &&& ((1 : Int64) <<< (pl.toInt64 &&& 63))) (0 : Int64)) = (0 : Int32) then (0 : Int32)
  else (1 : Int32)
def Q11 (Z : State) (ob : Addr) (pl : Int32) (wa : Addr) (f : Nat → Int64) (h0 : Heap) (n0 : Nat) (v : Option Value) (h : Heap) (L : List Loc) : Prop := v = some (.int (contF pl f)) ∧ Fr n0 L ∧ h = h0
set_option maxRecDepth 65536 in
set_option maxHeartbeats 40000000 in
theorem rm11 (l : Launch) (Z : State) (a0 : Array Value) (hw : ∀ d ∈ tables_1, d.before a0 Z = true) (ws : List Jvm.Cond) (ob : Addr) (pl : Int32) (wa : Addr) (f : Nat → Int64) (h0 : Heap) (n0 : Nat) (Z0 : n0 ≤ h0.size) (E_ob : Exa Z h0 ob "com/example/bitgrove/bitgrove/HeapBitmapContainer") (F_words : Fld Z h0 ob "com/example/bitgrove/bitgrove/HeapBitmapContainer" "words" "[J" (.ref wa)) (V0 : LA Z h0 wa f) (ra : 0 ≤ ((pl.toUInt32 >>> ((6 : Int32) &&& 31).toUInt32).toInt32).toInt) (rb : ((pl.toUInt32 >>> ((6 : Int32) &&& 31).toUInt32).toInt32).toInt < 1024) :
    MetFree l (⟨"com/example/bitgrove/bitgrove/BitmapContainer", "contains", "(I)Z"⟩ : MethodName) (head1 (Jvm.Cond.code (⟨"com/example/bitgrove/bitgrove/BitmapContainer", "contains", "(I)Z"⟩ : MethodName) prog_7_method_4_code 2 (some .boolean) :: ws) ({ frames := 1, cells := 0, slots := 0, locals := 13 } : Room)) (fun a U => a = #[(.ref ob), (.int pl)] ∧ Z.Warmed39 U.vm ∧ U.heap = h0) (fun _ _ _ _ _ => True) (fun _ U o U' => ∃ v L, o = .returned v ∧ Q11 Z ob pl wa f h0 n0 v U'.heap L ∧ FrameEnd U o U' L ({ frames := 1, cells := 0, slots := 0, locals := 13 } : Room).cells ({ frames := 1, cells := 0, slots := 0, locals := 13 } : Room).slots) := by
  refine MetFree.of_bodySF (plainFor_of_name pn_0) hisR ?_
  intro p e s m args below meth c s₁ Bd hml0 hP hK
  obtain ⟨rfl, hZ, hh⟩ := hP
  have hx := Bd.exec
  have hby := Bd.bytes
  have hml : c.maxLocals = 2 := hml0
  have hown : s.vm.findClass "com/example/bitgrove/bitgrove/BitmapContainer" = some m.cls := findClass_of_methodNamed Bd.named
  have hnm := (name_of_methodNamed Bd.named Bd.method).1
  have X0 : Stand p l e ({ frames := 1, cells := 0, slots := 0, locals := 13 } : Room) s m #[(.ref ob), (.int pl)] below meth c s₁ [] 0 0 := Stand.of_body Bd
  have e0 : s₁.heap = h0 := by rw [← hh, Bd.state]; rfl
  have N0 := Fr.nil n0
  have pre0 : ∀ t, Steps p.tables e below (s₁.setTop (mkF m 0 #[.val (.ref ob), .val (.int pl)] [])) t → Steps p.tables e below (s₁.setTop (entryFrame m #[(.ref ob), (.int pl)] 2)) t := fun t k => castTop (ef_rm11 m ob pl) k
  obtain ⟨cq1, kq1, q1a, q1b, q1c⟩ := isOf hZ e0 E_ob
  obtain ⟨_, _, ⟨T1, L1, k1, n1⟩, -, X1, ⟨Lc1, hQ1, l1, y1, z1⟩, st1⟩ := X0.virtualBack hx (y := (⟨"com/example/bitgrove/bitgrove/BitmapContainer", "word", "(I)J"⟩ : MethodName)) (z := (⟨"com/example/bitgrove/bitgrove/HeapBitmapContainer", "word", "(I)J"⟩ : MethodName)) hown (mvT hZ (hw _ (List.mem_of_getElem? (i := 63) rfl))) (mvT hZ (hw _ (List.mem_of_getElem? (i := 64) rfl))) (own_nf (args := #[]) (mvT hZ (hw _ (List.mem_of_getElem? (i := 61) rfl))) rfl) (mvT hZ (hw _ (List.mem_of_getElem? (i := 65) rfl))) (mvT hZ (hw _ (List.mem_of_getElem? (i := 54) rfl))) (by decide) (backOf (W := 0) (rm10 l Z a0 hw [] ob ((pl.toUInt32 >>> ((6 : Int32) &&& 31).toUInt32).toInt32) wa f h0 n0 Z0 F_words V0 ra rb) hZ (hw _ (List.mem_of_getElem? (i := 56) rfl)) (hw _ (List.mem_of_getElem? (i := 27) rfl)) (by decide) (by decide)) q1a q1c (g := (mkF m 5 #[.val (.ref ob), .val (.int pl)] [(.int ((pl.toUInt32 >>> ((6 : Int32) &&& 31).toUInt32).toInt32)), (.ref ob)])) rfl (by rw [hml]; rfl) (Steps.refl _) (argsL := [(.int ((pl.toUInt32 >>> ((6 : Int32) &&& 31).toUInt32).toInt32))]) (rest := []) (lenOf pd_3 rfl) rfl (by show 2 * 0 + _ ≤ _; exact Nat.le_of_eq rfl) (hb hby d11_5) (fun _ _ => ⟨rfl, e0, (by decide : 0 + 0 ≤ _), (by decide : 0 + 0 ≤ _)⟩)
  dsimp only [Pt.U, Pt.locs, Pt.cells, Pt.slots] at X1 l1 y1 z1 st1 hQ1
  subst l1 y1 z1
  obtain ⟨rfl, N1q, e1⟩ := hQ1
  have N1 := Fr.app N0 N1q
  have pre2 : ∀ tq, Steps p.tables e below (T1.setTop (mkF m 14 #[.val (.ref ob), .val (.int pl)] [(.int (lcmpW ((f ((pl.toUInt32 >>> ((6 : Int32) &&& 31).toUInt32).toInt32).toNatClampNeg) &&& ((1 : Int64) <<< (pl.toInt64 &&& 63))) (0 : Int64)))])) tq → Steps p.tables e below (s₁.setTop (entryFrame m #[(.ref ob), (.int pl)] 2)) tq := by
    intro tq kt
    refine pre0 tq ?_
    show Steps p.tables e below (s₁.setTop (mkF m 0 #[.val (.ref ob), .val (.int pl)] [])) _
    refine XS.aloadN X0.here hx rfl (hb hby d11_0) rfl rfl ?_
    show Steps p.tables e below (s₁.setTop (mkF m 1 #[.val (.ref ob), .val (.int pl)] [(.ref ob)])) _
    refine XS.iloadN X0.here hx rfl (hb hby d11_1) rfl ?_
    show Steps p.tables e below (s₁.setTop (mkF m 2 #[.val (.ref ob), .val (.int pl)] [(.int pl), (.ref ob)])) _
    refine XS.bipush X0.here hx rfl (hb hby d11_2) ?_
    show Steps p.tables e below (s₁.setTop (mkF m 4 #[.val (.ref ob), .val (.int pl)] [(.int (6 : Int32)), (.int pl), (.ref ob)])) _
    refine XS.iushr X0.here hx rfl (hb hby d11_4) rfl ?_
    show Steps p.tables e below (s₁.setTop (mkF m 5 #[.val (.ref ob), .val (.int pl)] [(.int ((pl.toUInt32 >>> ((6 : Int32) &&& 31).toUInt32).toInt32)), (.ref ob)])) _
    refine st1.trans ?_
    show Steps p.tables e below (T1.setTop (mkF m 8 #[.val (.ref ob), .val (.int pl)] [(.long (f ((pl.toUInt32 >>> ((6 : Int32) &&& 31).toUInt32).toInt32).toNatClampNeg))])) _
    refine XS.lconst X1.here hx rfl (hb hby d11_8) ?_
    show Steps p.tables e below (T1.setTop (mkF m 9 #[.val (.ref ob), .val (.int pl)] [(.long (1 : Int64)), (.long (f ((pl.toUInt32 >>> ((6 : Int32) &&& 31).toUInt32).toInt32).toNatClampNeg))])) _
    refine XS.iloadN X1.here hx rfl (hb hby d11_9) rfl ?_
    show Steps p.tables e below (T1.setTop (mkF m 10 #[.val (.ref ob), .val (.int pl)] [(.int pl), (.long (1 : Int64)), (.long (f ((pl.toUInt32 >>> ((6 : Int32) &&& 31).toUInt32).toInt32).toNatClampNeg))])) _
    refine XT.lshl X1.here hx rfl (hb hby d11_10) rfl ?_
    show Steps p.tables e below (T1.setTop (mkF m 11 #[.val (.ref ob), .val (.int pl)] [(.long ((1 : Int64) <<< (pl.toInt64 &&& 63))), (.long (f ((pl.toUInt32 >>> ((6 : Int32) &&& 31).toUInt32).toInt32).toNatClampNeg))])) _
    refine XS.land X1.here hx rfl (hb hby d11_11) rfl ?_
    show Steps p.tables e below (T1.setTop (mkF m 12 #[.val (.ref ob), .val (.int pl)] [(.long ((f ((pl.toUInt32 >>> ((6 : Int32) &&& 31).toUInt32).toInt32).toNatClampNeg) &&& ((1 : Int64) <<< (pl.toInt64 &&& 63))))])) _
    refine XS.lconst X1.here hx rfl (hb hby d11_12) ?_
    show Steps p.tables e below (T1.setTop (mkF m 13 #[.val (.ref ob), .val (.int pl)] [(.long (0 : Int64)), (.long ((f ((pl.toUInt32 >>> ((6 : Int32) &&& 31).toUInt32).toInt32).toNatClampNeg) &&& ((1 : Int64) <<< (pl.toInt64 &&& 63))))])) _
    refine XS.lcmp X1.here hx rfl (hb hby d11_13) rfl ?_
    show Steps p.tables e below (T1.setTop (mkF m 14 #[.val (.ref ob), .val (.int pl)] [(.int (lcmpW ((f ((pl.toUInt32 >>> ((6 : Int32) &&& 31).toUInt32).toInt32).toNatClampNeg) &&& ((1 : Int64) <<< (pl.toInt64 &&& 63))) (0 : Int64)))])) _
    exact kt
  by_cases hc14_3 : (lcmpW ((f ((pl.toUInt32 >>> ((6 : Int32) &&& 31).toUInt32).toInt32).toNatClampNeg) &&& ((1 : Int64) <<< (pl.toInt64 &&& 63))) (0 : Int64)) = (0 : Int32)
  · obtain ⟨fs, hr, hrun, hended, hW, hsame⟩ := X1.leave (v := some (.int (0 : Int32))) (fun h => by rw [Bd.returns] at h; cases h)
    refine ⟨_, _, pre2 _ ?_, hrun, hended, _, _, rfl, ?_, ⟨_, rfl⟩, hW, hsame.mono (by decide) (by decide)⟩
    · show Steps p.tables e below (T1.setTop (mkF m 14 #[.val (.ref ob), .val (.int pl)] [(.int (lcmpW ((f ((pl.toUInt32 >>> ((6 : Int32) &&& 31).toUInt32).toInt32).toNatClampNeg) &&& ((1 : Int64) <<< (pl.toInt64 &&& 63))) (0 : Int64)))])) _
      refine XS.ifYes X1.here hx rfl (pc0 := 14) (pc' := 21) rfl (hb hby d11_14) rfl ((if0 _ _).trans (teq hc14_3).1) (by decide) (by decide) ?_
      show Steps p.tables e below (T1.setTop (mkF m 21 #[.val (.ref ob), .val (.int pl)] [])) _
      refine XS.iconst X1.here hx rfl (hb hby d11_21) ?_
      show Steps p.tables e below (T1.setTop (mkF m 22 #[.val (.ref ob), .val (.int pl)] [(.int (0 : Int32))])) _
      exact retN X1 hx (t := .boolean) Bd.returns (by simp) (hb hby d11_22) hr
    · show Q11 Z ob pl wa f h0 n0 _ T1.heap _
      rw [e1]
      refine ⟨?_, N1, rfl⟩
      show (some (.int (0 : Int32)) : Option Value) = some (.int (contF pl f))
      rw [show (contF pl f) = (0 : Int32) from by unfold contF; rw [if_pos hc14_3]]
  · obtain ⟨fs, hr, hrun, hended, hW, hsame⟩ := X1.leave (v := some (.int (1 : Int32))) (fun h => by rw [Bd.returns] at h; cases h)
    refine ⟨_, _, pre2 _ ?_, hrun, hended, _, _, rfl, ?_, ⟨_, rfl⟩, hW, hsame.mono (by decide) (by decide)⟩
    · show Steps p.tables e below (T1.setTop (mkF m 14 #[.val (.ref ob), .val (.int pl)] [(.int (lcmpW ((f ((pl.toUInt32 >>> ((6 : Int32) &&& 31).toUInt32).toInt32).toNatClampNeg) &&& ((1 : Int64) <<< (pl.toInt64 &&& 63))) (0 : Int64)))])) _
      refine XS.ifNo X1.here hx rfl (hb hby d11_14) rfl ((if0 _ _).trans (feq hc14_3).1) ?_
      show Steps p.tables e below (T1.setTop (mkF m 17 #[.val (.ref ob), .val (.int pl)] [])) _
      refine XS.iconst X1.here hx rfl (hb hby d11_17) ?_
      show Steps p.tables e below (T1.setTop (mkF m 18 #[.val (.ref ob), .val (.int pl)] [(.int (1 : Int32))])) _
      refine XS.goto X1.here hx rfl (pc0 := 18) (pc' := 22) rfl (hb hby d11_18) (by decide) (by decide) ?_
      show Steps p.tables e below (T1.setTop (mkF m 22 #[.val (.ref ob), .val (.int pl)] [(.int (1 : Int32))])) _
      exact retN X1 hx (t := .boolean) Bd.returns (by simp) (hb hby d11_22) hr
    · show Q11 Z ob pl wa f h0 n0 _ T1.heap _
      rw [e1]
      refine ⟨?_, N1, rfl⟩
      show (some (.int (1 : Int32)) : Option Value) = some (.int (contF pl f))
      rw [show (contF pl f) = (1 : Int32) from by unfold contF; rw [if_neg hc14_3]]
theorem d12_0 : decode prog_23_method_3_code 0 = .ok (.aload_n 0, 1) := by decide +kernel
theorem d12_1 : decode prog_23_method_3_code 1 = .ok (.getfield 20, 3) := by decide +kernel
theorem d12_4 : decode prog_23_method_3_code 4 = .ok (.ireturn, 1) := by decide +kernel
theorem ef_rm12 (m : MethodId) (x0 : Addr) : entryFrame m #[(.ref x0)] 1 = mkF m 0 #[.val (.ref x0)] [] := by first | (simp [entryFrame, mkF, argsToLocals, Value.category]; done) | rfl
def Q12 (Z : State) (ob : Addr) (cd : Int32) (h0 : Heap) (n0 : Nat) (v : Option Value) (h : Heap) (L : List Loc) : Prop := v = some (.int cd) ∧ Fr n0 L ∧ h = h0
set_option maxRecDepth 65536 in
set_option maxHeartbeats 40000000 in
theorem rm12 (l : Launch) (Z : State) (a0 : Array Value) (hw : ∀ d ∈ tables_1, d.before a0 Z = true) (ws : List Jvm.Cond) (ob : Addr) (cd : Int32) (h0 : Heap) (n0 : Nat) (Z0 : n0 ≤ h0.size) (F_card : Fld Z h0 ob "com/example/bitgrove/bitgrove/HeapBitmapContainer" "cardinality" "I" (.int cd)) :
    MetFree l (⟨"com/example/bitgrove/bitgrove/HeapBitmapContainer", "cardinality", "()I"⟩ : MethodName) (head1 (Jvm.Cond.code (⟨"com/example/bitgrove/bitgrove/HeapBitmapContainer", "cardinality", "()I"⟩ : MethodName) prog_23_method_3_code 1 (some .int) :: ws) ({ frames := 0, cells := 0, slots := 0, locals := 0 } : Room)) (fun a U => a = #[(.ref ob)] ∧ Z.Warmed39 U.vm ∧ U.heap = h0) (fun _ _ _ _ _ => True) (fun _ U o U' => ∃ v L, o = .returned v ∧ Q12 Z ob cd h0 n0 v U'.heap L ∧ FrameEnd U o U' L ({ frames := 0, cells := 0, slots := 0, locals := 0 } : Room).cells ({ frames := 0, cells := 0, slots := 0, locals := 0 } : Room).slots) := by
  refine MetFree.of_bodySF (plainFor_of_name pn_4) hisR ?_
  intro p e s m args below meth c s₁ Bd hml0 hP hK
  obtain ⟨rfl, hZ, hh⟩ := hP
  have hx := Bd.exec
  have hby := Bd.bytes
  have hml : c.maxLocals = 1 := hml0
  have hown : s.vm.findClass "com/example/bitgrove/bitgrove/HeapBitmapContainer" = some m.cls := findClass_of_methodNamed Bd.named
  have hnm := (name_of_methodNamed Bd.named Bd.method).1
  have X0 : Stand p l e ({ frames := 0, cells := 0, slots := 0, locals := 0 } : Room) s m #[(.ref ob)] below meth c s₁ [] 0 0 := Stand.of_body Bd
  have e0 : s₁.heap = h0 := by rw [← hh, Bd.state]; rfl
  have N0 := Fr.nil n0
  have pre0 : ∀ t, Steps p.tables e below (s₁.setTop (mkF m 0 #[.val (.ref ob)] [])) t → Steps p.tables e below (s₁.setTop (entryFrame m #[(.ref ob)] 1)) t := fun t k => castTop (ef_rm12 m ob) k
  obtain ⟨T1, X1, e1, st1⟩ := getF X0 hx hZ hown (host := "") (Or.inl (hw _ (List.mem_of_getElem? (i := 45) rfl))) Via.refl e0 F_card (g := (mkF m 1 #[.val (.ref ob)] [(.ref ob)])) rfl rfl (hb hby d12_1)
  obtain ⟨fs, hr, hrun, hended, hW, hsame⟩ := X1.leave (v := some (.int cd)) (fun h => by rw [Bd.returns] at h; cases h)
  refine ⟨_, _, pre0 _ ?_, hrun, hended, _, _, rfl, ?_, ⟨_, rfl⟩, hW, hsame.mono (by decide) (by decide)⟩
  · show Steps p.tables e below (s₁.setTop (mkF m 0 #[.val (.ref ob)] [])) _
    refine XS.aloadN X0.here hx rfl (hb hby d12_0) rfl rfl ?_
    show Steps p.tables e below (s₁.setTop (mkF m 1 #[.val (.ref ob)] [(.ref ob)])) _
    refine st1 _ ?_
    show Steps p.tables e below (T1.setTop (mkF m 4 #[.val (.ref ob)] [(.int cd)])) _
    exact retI X1 hx Bd.returns (hb hby d12_4) hr
  · show Q12 Z ob cd h0 n0 _ T1.heap _
    rw [e1]
    exact ⟨rfl, N0, rfl⟩
theorem own_lw (z : Int32) : 0 ≤ (z &&& (65535 : Int32)).toInt ∧ (z &&& (65535 : Int32)).toInt < 65536 := by
  have h := c_and z 65535 (by decide)
  have e : (65535 : Int32).toInt = 65535 := rfl
  rw [e] at h
  omega
theorem own_ii {z : Int32} (h0 : 0 ≤ z.toInt) (h1 : z.toInt < 65536) : 0 ≤ ((z.toUInt32 >>> ((6 : Int32) &&& 31).toUInt32).toInt32).toInt ∧ ((z.toUInt32 >>> ((6 : Int32) &&& 31).toUInt32).toInt32).toInt < 1024 := by
  have h := c_iushr z 6 6 (by decide) (by decide)
  rw [h]
  omega
theorem own_klt (z : Int32) : (z.toInt % 64).toNat < 64 := by omega
theorem own_k32 (z : Int32) : (z &&& (63 : Int32)) = Int32.ofNat (z.toInt % 64).toNat := own_ofNat32 (by rw [c_mask z 63 6 (by decide) (by decide)]; omega) (own_klt z)
theorem own_k64 (z : Int32) : (z.toInt64 &&& (63 : Int64)) = Int64.ofNat (z.toInt % 64).toNat := own_ofNat64 (by rw [c_maskL z.toInt64 63 6 (by decide) (by decide), c_i2l]; omega) (own_klt z)
theorem own_bit63 (z : Int32) : ((1 : Int64) <<< ((z &&& (63 : Int32)).toInt64 &&& 63)) = ((1 : Int64) <<< (z.toInt64 &&& 63)) := by
  have e1 : ((z &&& (63 : Int32)).toInt64 &&& (63 : Int64)) = Int64.ofNat (z.toInt % 64).toNat := own_ofNat64 (by rw [c_maskL (z &&& (63 : Int32)).toInt64 63 6 (by decide) (by decide), c_i2l, c_mask z 63 6 (by decide) (by decide)]; omega) (own_klt z)
  rw [e1, own_k64 z]
theorem pd_4 : parseMethodDescriptor "([JII)I" = some ⟨[(.array .long), .int, .int], some .int⟩ := by decide +kernel
theorem pd_5 : parseMethodDescriptor "([JI)V" = some ⟨[(.array .long), .int], none⟩ := by decide +kernel
theorem pd_6 : parseMethodDescriptor "(I)Lcom/example/bitgrove/bitgrove/Container;" = some ⟨[.int], some (.object "com/example/bitgrove/bitgrove/Container")⟩ := by decide +kernel
theorem pd_7 : parseMethodDescriptor "(I)Z" = some ⟨[.int], some .boolean⟩ := by decide +kernel
theorem pd_8 : parseMethodDescriptor "()I" = some ⟨[], some .int⟩ := by decide +kernel
theorem ef_rm0 (m : MethodId) (x0 : Int32) (x1 : Int64) (x2 : Int64) : entryFrame m #[(.int x0), (.long x1), (.long x2)] maxLocals = mkF m 0 #[.val (.int x0), .val (.long x1), .second, .val (.long x2), .second, .unset, .unset, .unset, .unset, .unset, .unset, .unset, .unset, .unset, .unset, .unset, .unset, .unset] [] := by first | (simp [entryFrame, mkF, argsToLocals, Value.category, maxLocals]; done) | rfl
def Q0 (Z : State) (px : Int32) (pw : Int64) (pv : Int64) (h0 : Heap) (n0 : Nat) (v : Option Value) (h : Heap) (L : List Loc) : Prop := v = some (.int 1) ∧ Fr n0 L
set_option maxRecDepth 65536 in
set_option maxHeartbeats 40000000 in
theorem rm0 (l : Launch) (Z : State) (a0 : Array Value) (hw : ∀ d ∈ tables_1, d.before a0 Z = true) (ws : List Jvm.Cond) (px : Int32) (pw : Int64) (pv : Int64) (h0 : Heap) (n0 : Nat) (Z0 : n0 ≤ h0.size) :
    MetFree l x (head1 (Jvm.Cond.code x code maxLocals ret :: ws) room_1) (fun a U => a = #[(.int px), (.long pw), (.long pv)] ∧ Z.Warmed39 U.vm ∧ U.heap = h0) (fun _ _ _ _ _ => True) (fun _ U o U' => ∃ v L, o = .returned v ∧ Q0 Z px pw pv h0 n0 v U'.heap L ∧ FrameEnd U o U' L room_1.cells room_1.slots) := by
  refine MetFree.of_bodySF (plainFor_of_name pn_2) hisR ?_
  intro p e s m args below meth c s₁ Bd hml0 hP hK
  obtain ⟨rfl, hZ, hh⟩ := hP
  have hx := Bd.exec
  have hby := Bd.bytes
  have hml : c.maxLocals = 18 := hml0
  have hown : s.vm.findClass "com/example/bitgrove/bitgrove/HeapBitmapContainerAddPinLaw" = some m.cls := findClass_of_methodNamed Bd.named
  have hnm := (name_of_methodNamed Bd.named Bd.method).1
  have X0 : Stand p l e room_1 s m #[(.int px), (.long pw), (.long pv)] below meth c s₁ [] 0 0 := Stand.of_body Bd
  have e0 : s₁.heap = h0 := by rw [← hh, Bd.state]; rfl
  have N0 := Fr.nil n0
  have pre0 : ∀ t, Steps p.tables e below (s₁.setTop (mkF m 0 #[.val (.int px), .val (.long pw), .second, .val (.long pv), .second, .unset, .unset, .unset, .unset, .unset, .unset, .unset, .unset, .unset, .unset, .unset, .unset, .unset] [])) t → Steps p.tables e below (s₁.setTop (entryFrame m #[(.int px), (.long pw), (.long pv)] maxLocals)) t := fun t k => castTop (ef_rm0 m px pw pv) k
  have pre1 : ∀ tq, Steps p.tables e below (s₁.setTop (mkF m 6 #[.val (.int px), .val (.long pw), .second, .val (.long pv), .second, .val (.int (px &&& (65535 : Int32))), .unset, .unset, .unset, .unset, .unset, .unset, .unset, .unset, .unset, .unset, .unset, .unset] [])) tq → Steps p.tables e below (s₁.setTop (entryFrame m #[(.int px), (.long pw), (.long pv)] maxLocals)) tq := by
    intro tq kt
    refine pre0 tq ?_
    show Steps p.tables e below (s₁.setTop (mkF m 0 #[.val (.int px), .val (.long pw), .second, .val (.long pv), .second, .unset, .unset, .unset, .unset, .unset, .unset, .unset, .unset, .unset, .unset, .unset, .unset, .unset] [])) _
    refine XS.iloadN X0.here hx rfl (hb hby at_0) rfl ?_
    show Steps p.tables e below (s₁.setTop (mkF m 1 #[.val (.int px), .val (.long pw), .second, .val (.long pv), .second, .unset, .unset, .unset, .unset, .unset, .unset, .unset, .unset, .unset, .unset, .unset, .unset, .unset] [(.int px)])) _
    refine X0.ldcInt hx hown (mvT hZ (hw _ (List.mem_of_getElem? (i := 0) rfl))) (g := (mkF m 1 #[.val (.int px), .val (.long pw), .second, .val (.long pv), .second, .unset, .unset, .unset, .unset, .unset, .unset, .unset, .unset, .unset, .unset, .unset, .unset, .unset] [(.int px)])) rfl (hb hby at_1) _ ?_
    show Steps p.tables e below (s₁.setTop (mkF m 3 #[.val (.int px), .val (.long pw), .second, .val (.long pv), .second, .unset, .unset, .unset, .unset, .unset, .unset, .unset, .unset, .unset, .unset, .unset, .unset, .unset] [(.int (65535 : Int32)), (.int px)])) _
    refine XS.iand X0.here hx rfl (hb hby at_3) rfl ?_
    show Steps p.tables e below (s₁.setTop (mkF m 4 #[.val (.int px), .val (.long pw), .second, .val (.long pv), .second, .unset, .unset, .unset, .unset, .unset, .unset, .unset, .unset, .unset, .unset, .unset, .unset, .unset] [(.int (px &&& (65535 : Int32)))])) _
    refine XS.istore X0.here hx rfl (hb hby at_4) rfl (l' := #[.val (.int px), .val (.long pw), .second, .val (.long pv), .second, .val (.int (px &&& (65535 : Int32))), .unset, .unset, .unset, .unset, .unset, .unset, .unset, .unset, .unset, .unset, .unset, .unset]) rfl ?_
    show Steps p.tables e below (s₁.setTop (mkF m 6 #[.val (.int px), .val (.long pw), .second, .val (.long pv), .second, .val (.int (px &&& (65535 : Int32))), .unset, .unset, .unset, .unset, .unset, .unset, .unset, .unset, .unset, .unset, .unset, .unset] [])) _
    exact kt
  obtain ⟨lw, h_lw⟩ : ∃ z : Int32, z = (px &&& (65535 : Int32)) := ⟨_, rfl⟩
  rw [← h_lw] at pre1
  have rl := own_lw px
  rw [← h_lw] at rl
  have pre2 : ∀ tq, Steps p.tables e below (s₁.setTop (mkF m 13 #[.val (.int px), .val (.long pw), .second, .val (.long pv), .second, .val (.int lw), .val (.int ((lw.toUInt32 >>> ((6 : Int32) &&& 31).toUInt32).toInt32)), .unset, .unset, .unset, .unset, .unset, .unset, .unset, .unset, .unset, .unset, .unset] [])) tq → Steps p.tables e below (s₁.setTop (entryFrame m #[(.int px), (.long pw), (.long pv)] maxLocals)) tq := by
    intro tq kt
    refine pre1 tq ?_
    show Steps p.tables e below (s₁.setTop (mkF m 6 #[.val (.int px), .val (.long pw), .second, .val (.long pv), .second, .val (.int lw), .unset, .unset, .unset, .unset, .unset, .unset, .unset, .unset, .unset, .unset, .unset, .unset] [])) _
    refine XS.iload X0.here hx rfl (hb hby at_6) rfl ?_
    show Steps p.tables e below (s₁.setTop (mkF m 8 #[.val (.int px), .val (.long pw), .second, .val (.long pv), .second, .val (.int lw), .unset, .unset, .unset, .unset, .unset, .unset, .unset, .unset, .unset, .unset, .unset, .unset] [(.int lw)])) _
    refine XS.bipush X0.here hx rfl (hb hby at_8) ?_
    show Steps p.tables e below (s₁.setTop (mkF m 10 #[.val (.int px), .val (.long pw), .second, .val (.long pv), .second, .val (.int lw), .unset, .unset, .unset, .unset, .unset, .unset, .unset, .unset, .unset, .unset, .unset, .unset] [(.int (6 : Int32)), (.int lw)])) _
    refine XS.iushr X0.here hx rfl (hb hby at_10) rfl ?_
    show Steps p.tables e below (s₁.setTop (mkF m 11 #[.val (.int px), .val (.long pw), .second, .val (.long pv), .second, .val (.int lw), .unset, .unset, .unset, .unset, .unset, .unset, .unset, .unset, .unset, .unset, .unset, .unset] [(.int ((lw.toUInt32 >>> ((6 : Int32) &&& 31).toUInt32).toInt32))])) _
    refine XS.istore X0.here hx rfl (hb hby at_11) rfl (l' := #[.val (.int px), .val (.long pw), .second, .val (.long pv), .second, .val (.int lw), .val (.int ((lw.toUInt32 >>> ((6 : Int32) &&& 31).toUInt32).toInt32)), .unset, .unset, .unset, .unset, .unset, .unset, .unset, .unset, .unset, .unset, .unset]) rfl ?_
    show Steps p.tables e below (s₁.setTop (mkF m 13 #[.val (.int px), .val (.long pw), .second, .val (.long pv), .second, .val (.int lw), .val (.int ((lw.toUInt32 >>> ((6 : Int32) &&& 31).toUInt32).toInt32)), .unset, .unset, .unset, .unset, .unset, .unset, .unset, .unset, .unset, .unset, .unset] [])) _
    exact kt
  obtain ⟨ii, h_ii⟩ : ∃ z : Int32, z = ((lw.toUInt32 >>> ((6 : Int32) &&& 31).toUInt32).toInt32) := ⟨_, rfl⟩
  rw [← h_ii] at pre2
  have ri := own_ii rl.1 rl.2
  rw [← h_ii] at ri
  have ri0 := ri.1
  have ri1 := ri.2
  have pre3 : ∀ tq, Steps p.tables e below (s₁.setTop (mkF m 19 #[.val (.int px), .val (.long pw), .second, .val (.long pv), .second, .val (.int lw), .val (.int ii), .val (.int (ii ^^^ (1 : Int32))), .unset, .unset, .unset, .unset, .unset, .unset, .unset, .unset, .unset, .unset] [])) tq → Steps p.tables e below (s₁.setTop (entryFrame m #[(.int px), (.long pw), (.long pv)] maxLocals)) tq := by
    intro tq kt
    refine pre2 tq ?_
    show Steps p.tables e below (s₁.setTop (mkF m 13 #[.val (.int px), .val (.long pw), .second, .val (.long pv), .second, .val (.int lw), .val (.int ii), .unset, .unset, .unset, .unset, .unset, .unset, .unset, .unset, .unset, .unset, .unset] [])) _
    refine XS.iload X0.here hx rfl (hb hby at_13) rfl ?_
    show Steps p.tables e below (s₁.setTop (mkF m 15 #[.val (.int px), .val (.long pw), .second, .val (.long pv), .second, .val (.int lw), .val (.int ii), .unset, .unset, .unset, .unset, .unset, .unset, .unset, .unset, .unset, .unset, .unset] [(.int ii)])) _
    refine XS.iconst X0.here hx rfl (hb hby at_15) ?_
    show Steps p.tables e below (s₁.setTop (mkF m 16 #[.val (.int px), .val (.long pw), .second, .val (.long pv), .second, .val (.int lw), .val (.int ii), .unset, .unset, .unset, .unset, .unset, .unset, .unset, .unset, .unset, .unset, .unset] [(.int (1 : Int32)), (.int ii)])) _
    refine XS.ixor X0.here hx rfl (hb hby at_16) rfl ?_
    show Steps p.tables e below (s₁.setTop (mkF m 17 #[.val (.int px), .val (.long pw), .second, .val (.long pv), .second, .val (.int lw), .val (.int ii), .unset, .unset, .unset, .unset, .unset, .unset, .unset, .unset, .unset, .unset, .unset] [(.int (ii ^^^ (1 : Int32)))])) _
    refine XS.istore X0.here hx rfl (hb hby at_17) rfl (l' := #[.val (.int px), .val (.long pw), .second, .val (.long pv), .second, .val (.int lw), .val (.int ii), .val (.int (ii ^^^ (1 : Int32))), .unset, .unset, .unset, .unset, .unset, .unset, .unset, .unset, .unset, .unset]) rfl ?_
    show Steps p.tables e below (s₁.setTop (mkF m 19 #[.val (.int px), .val (.long pw), .second, .val (.long pv), .second, .val (.int lw), .val (.int ii), .val (.int (ii ^^^ (1 : Int32))), .unset, .unset, .unset, .unset, .unset, .unset, .unset, .unset, .unset, .unset] [])) _
    exact kt
  obtain ⟨jj, h_jj⟩ : ∃ z : Int32, z = (ii ^^^ (1 : Int32)) := ⟨_, rfl⟩
  rw [← h_jj] at pre3
  have rx := own_xor ri0 ri1
  rw [← h_jj] at rx
  have rj0 := rx.1
  have rj1 := rx.2.1
  have rne := rx.2.2.1
  have rhalf := rx.2.2.2
  have e512 : (512 : Int32).toInt = 512 := rfl
  have pre4 : ∀ tq, Steps p.tables e below (s₁.setTop (mkF m 24 #[.val (.int px), .val (.long pw), .second, .val (.long pv), .second, .val (.int lw), .val (.int ii), .val (.int jj), .unset, .unset, .unset, .unset, .unset, .unset, .unset, .unset, .unset, .unset] [(.int (512 : Int32)), (.int ii)])) tq → Steps p.tables e below (s₁.setTop (entryFrame m #[(.int px), (.long pw), (.long pv)] maxLocals)) tq := by
    intro tq kt
    refine pre3 tq ?_
    show Steps p.tables e below (s₁.setTop (mkF m 19 #[.val (.int px), .val (.long pw), .second, .val (.long pv), .second, .val (.int lw), .val (.int ii), .val (.int jj), .unset, .unset, .unset, .unset, .unset, .unset, .unset, .unset, .unset, .unset] [])) _
    refine XS.iload X0.here hx rfl (hb hby at_19) rfl ?_
    show Steps p.tables e below (s₁.setTop (mkF m 21 #[.val (.int px), .val (.long pw), .second, .val (.long pv), .second, .val (.int lw), .val (.int ii), .val (.int jj), .unset, .unset, .unset, .unset, .unset, .unset, .unset, .unset, .unset, .unset] [(.int ii)])) _
    refine XS.sipush X0.here hx rfl (hb hby at_21) ?_
    show Steps p.tables e below (s₁.setTop (mkF m 24 #[.val (.int px), .val (.long pw), .second, .val (.long pv), .second, .val (.int lw), .val (.int ii), .val (.int jj), .unset, .unset, .unset, .unset, .unset, .unset, .unset, .unset, .unset, .unset] [(.int (512 : Int32)), (.int ii)])) _
    exact kt
  by_cases hc24_5 : ii < (512 : Int32)
  · have hhf : ii.toInt < 512 := by rw [Int32.lt_iff_toInt_lt, e512] at hc24_5; exact hc24_5
    obtain ⟨T6, h6, k6, X6, e6, E6, A6, st6⟩ := newP X0 hx hZ (hw _ (List.mem_of_getElem? (i := 1) rfl)) e0 (g := (mkF m 39 #[.val (.int px), .val (.long pw), .second, .val (.long pv), .second, .val (.int lw), .val (.int ii), .val (.int jj), .val (.int (512 : Int32)), .unset, .unset, .unset, .unset, .unset, .unset, .unset, .unset, .unset] [(.int (1024 : Int32))])) rfl (hb hby at_39) rfl (by decide) (cap := 1024) (by decide) (by decide) (by decide) (by decide)
    obtain ⟨b6, g6⟩ : ∃ z, z = h0.size := ⟨_, rfl⟩
    rw [← g6] at A6 st6
    have g_b6 : n0 ≤ b6 := Nat.le_trans Z0 (Nat.le_of_eq g6.symm)
    have sz_b6 : h0.size ≤ b6 := Nat.le_trans (Keep.refl h0 []).1 (Nat.le_of_eq g6.symm)
    have Kc6 : Keep h0 h6 [] := (Keep.refl h0 []).ext E6
    have V_b6 : LA Z h6 b6 (fun _ => 0) := LA.new A6 (by decide)
    have Vk7 := V_b6
    obtain ⟨cl7, Ar7, hz7, he7⟩ := Vk7
    have hin7 := own_in hz7 (j := ii) ri0 ri1
    obtain ⟨T8, h8, X8, e8, W8, st8⟩ := stJ X6 hx hZ e6 Ar7 (j := ii) hin7 (g := (mkF m 48 #[.val (.int px), .val (.long pw), .second, .val (.long pv), .second, .val (.int lw), .val (.int ii), .val (.int jj), .val (.int (512 : Int32)), .val (.ref b6), .unset, .unset, .unset, .unset, .unset, .unset, .unset, .unset] [(.long pw), (.int ii), (.ref b6)])) rfl rfl (hb hby at_48)
    have Kc8 : Keep h0 h8 [] := Kc6.wr W8 (Or.inr sz_b6)
    have N8 := Fr.snoc X8 N0 g_b6
    obtain ⟨f8, hf_f8⟩ : ∃ g : Nat → Int64, g = fun k => if k = ii.toNatClampNeg then pw else (fun _ => (0 : Int64)) k := ⟨_, rfl⟩
    have V8 : LA Z h8 b6 f8 := by rw [hf_f8]; exact LA.set (f := (fun _ => (0 : Int64))) V_b6 W8
    have Vk9 := V8
    obtain ⟨cl9, Ar9, hz9, he9⟩ := Vk9
    have hin9 := own_in hz9 (j := jj) rj0 rj1
    obtain ⟨T10, h10, X10, e10, W10, st10⟩ := stJ X8 hx hZ e8 Ar9 (j := jj) hin9 (g := (mkF m 54 #[.val (.int px), .val (.long pw), .second, .val (.long pv), .second, .val (.int lw), .val (.int ii), .val (.int jj), .val (.int (512 : Int32)), .val (.ref b6), .unset, .unset, .unset, .unset, .unset, .unset, .unset, .unset] [(.long pv), (.int jj), (.ref b6)])) rfl rfl (hb hby at_54)
    have Kc10 : Keep h0 h10 [] := Kc8.wr W10 (Or.inr sz_b6)
    have N10 := Fr.snoc X10 N8 g_b6
    obtain ⟨f10, hf_f10⟩ : ∃ g : Nat → Int64, g = fun k => if k = jj.toNatClampNeg then pv else f8 k := ⟨_, rfl⟩
    have V10 : LA Z h10 b6 f10 := by rw [hf_f10]; exact LA.set (f := f8) V8 W10
    obtain ⟨_, _, ⟨T11, L11, k11, n11⟩, -, X11, ⟨Lc11, hQ11, l11, y11, z11⟩, st11⟩ := Jvm.LawKit.callS X10 hx (y := (⟨"com/example/bitgrove/bitgrove/BitmapContainer", "setRange", "([JII)I"⟩ : MethodName)) hown (mvT hZ (hw _ (List.mem_of_getElem? (i := 2) rfl))) (mvT hZ (hw _ (List.mem_of_getElem? (i := 3) rfl))) (mvT hZ (hw _ (List.mem_of_getElem? (i := 4) rfl))) (mvT hZ (hw _ (List.mem_of_getElem? (i := 5) rfl))) (by decide) (backOf (W := 0) (rm1 l Z a0 hw [] b6 (32768 : Int32) (36992 : Int32) f10 (512 : Int32) (577 : Int32) h10 n0 (Nat.le_trans Z0 Kc10.1) V10 g_b6 (by decide) (by decide) (by decide) (by decide) (by decide)) hZ (hw _ (List.mem_of_getElem? (i := 5) rfl)) (hw _ (List.mem_of_getElem? (i := 4) rfl)) (by decide) (by decide)) (g := (mkF m 71 #[.val (.int px), .val (.long pw), .second, .val (.long pv), .second, .val (.int lw), .val (.int ii), .val (.int jj), .val (.int (512 : Int32)), .val (.ref b6), .unset, .unset, .unset, .unset, .unset, .unset, .unset, .unset] [(.int (36992 : Int32)), (.int (32768 : Int32)), (.ref b6)])) rfl (by rw [hml]; rfl) (argsL := [(.ref b6), (.int (32768 : Int32)), (.int (36992 : Int32))]) (rest := []) (lenOf pd_4 rfl) rfl (by show 2 * 0 + _ ≤ _; exact Nat.le_of_eq rfl) (hb hby at_71) (fun _ _ => ⟨rfl, e10, (by decide : 1 + 0 ≤ _), (by decide : 1024 + 0 ≤ _)⟩)
    dsimp only [Pt.U, Pt.locs, Pt.cells, Pt.slots] at X11 l11 y11 z11 st11 hQ11
    subst l11 y11 z11
    obtain ⟨z11, f11, rfl, N11q, K11, V11, hf11⟩ := hQ11
    have N11 := Fr.app N10 N11q
    have Kc11 : Keep h0 T11.heap [] := Kc10.trans K11 (allS (Or.inr sz_b6) all0)
    have hwi : f11 ii.toNatClampNeg = pw := by
      rw [hf11 _ (by have := own_nat (j := ii) ri0; rw [show (512 : Int32).toInt = 512 from rfl, show (577 : Int32).toInt = 577 from rfl]; omega), hf_f10]
      show (if ii.toNatClampNeg = jj.toNatClampNeg then pv else f8 ii.toNatClampNeg) = pw
      rw [if_neg (by have := own_nat (j := ii) ri0; have := own_nat (j := jj) rj0; omega), hf_f8]
      exact if_pos rfl
    have hvj : f11 jj.toNatClampNeg = pv := by
      rw [hf11 _ (by have := own_nat (j := jj) rj0; rw [show (512 : Int32).toInt = 512 from rfl, show (577 : Int32).toInt = 577 from rfl]; omega), hf_f10]
      exact if_pos rfl
    obtain ⟨_, _, ⟨T12, L12, k12, n12⟩, -, X12, ⟨Lc12, hQ12, l12, y12, z12⟩, st12⟩ := Jvm.LawKit.callS X11 hx (y := (⟨"com/example/bitgrove/bitgrove/HeapBitmapContainerAddPinLaw", "pop", "(J)I"⟩ : MethodName)) hown (mvT hZ (hw _ (List.mem_of_getElem? (i := 17) rfl))) (mvT hZ (hw _ (List.mem_of_getElem? (i := 18) rfl))) (mvT hZ (hw _ (List.mem_of_getElem? (i := 19) rfl))) (mvT hZ (hw _ (List.mem_of_getElem? (i := 20) rfl))) (by decide) (backOf (W := 1) (rm4 l Z a0 hw [] pw T11.heap n0 (Nat.le_trans Z0 Kc11.1) ) hZ (hw _ (List.mem_of_getElem? (i := 20) rfl)) (hw _ (List.mem_of_getElem? (i := 19) rfl)) (by decide) (by decide)) (g := (mkF m 79 #[.val (.int px), .val (.long pw), .second, .val (.long pv), .second, .val (.int lw), .val (.int ii), .val (.int jj), .val (.int (512 : Int32)), .val (.ref b6), .val (.int z11), .unset, .unset, .unset, .unset, .unset, .unset, .unset] [(.long pw), (.int z11)])) rfl (by rw [hml]; rfl) (argsL := [(.long pw)]) (rest := [(.int z11)]) (lenOf pd_1 rfl) rfl (by show 2 * 0 + _ ≤ _; exact Nat.le_of_eq rfl) (hb hby at_79) (fun _ _ => ⟨rfl, rfl, (by decide : 1 + 0 ≤ _), (by decide : 1024 + 0 ≤ _)⟩)
    dsimp only [Pt.U, Pt.locs, Pt.cells, Pt.slots] at X12 l12 y12 z12 st12 hQ12
    subst l12 y12 z12
    obtain ⟨z12, rfl, N12q, e12⟩ := hQ12
    have N12 := Fr.app N11 N12q
    obtain ⟨_, _, ⟨T13, L13, k13, n13⟩, -, X13, ⟨Lc13, hQ13, l13, y13, z13⟩, st13⟩ := Jvm.LawKit.callS X12 hx (y := (⟨"com/example/bitgrove/bitgrove/HeapBitmapContainerAddPinLaw", "pop", "(J)I"⟩ : MethodName)) hown (mvT hZ (hw _ (List.mem_of_getElem? (i := 17) rfl))) (mvT hZ (hw _ (List.mem_of_getElem? (i := 18) rfl))) (mvT hZ (hw _ (List.mem_of_getElem? (i := 19) rfl))) (mvT hZ (hw _ (List.mem_of_getElem? (i := 20) rfl))) (by decide) (backOf (W := 1) (rm4 l Z a0 hw [] pv T11.heap n0 (Nat.le_trans Z0 Kc11.1) ) hZ (hw _ (List.mem_of_getElem? (i := 20) rfl)) (hw _ (List.mem_of_getElem? (i := 19) rfl)) (by decide) (by decide)) (g := (mkF m 84 #[.val (.int px), .val (.long pw), .second, .val (.long pv), .second, .val (.int lw), .val (.int ii), .val (.int jj), .val (.int (512 : Int32)), .val (.ref b6), .val (.int z11), .unset, .unset, .unset, .unset, .unset, .unset, .unset] [(.long pv), (.int (z11 + z12))])) rfl (by rw [hml]; rfl) (argsL := [(.long pv)]) (rest := [(.int (z11 + z12))]) (lenOf pd_1 rfl) rfl (by show 2 * 0 + _ ≤ _; exact Nat.le_of_eq rfl) (hb hby at_84) (fun _ _ => ⟨rfl, e12, (by decide : 1 + 0 ≤ _), (by decide : 1024 + 0 ≤ _)⟩)
    dsimp only [Pt.U, Pt.locs, Pt.cells, Pt.slots] at X13 l13 y13 z13 st13 hQ13
    subst l13 y13 z13
    obtain ⟨z13, rfl, N13q, e13⟩ := hQ13
    have N13 := Fr.app N12 N13q
    have pre14 : ∀ tq, Steps p.tables e below (T13.setTop (mkF m 90 #[.val (.int px), .val (.long pw), .second, .val (.long pv), .second, .val (.int lw), .val (.int ii), .val (.int jj), .val (.int (512 : Int32)), .val (.ref b6), .val (.int z11), .val (.int ((z11 + z12) + z13)), .unset, .unset, .unset, .unset, .unset, .unset] [])) tq → Steps p.tables e below (s₁.setTop (entryFrame m #[(.int px), (.long pw), (.long pv)] maxLocals)) tq := by
      intro tq kt
      refine pre4 tq ?_
      show Steps p.tables e below (s₁.setTop (mkF m 24 #[.val (.int px), .val (.long pw), .second, .val (.long pv), .second, .val (.int lw), .val (.int ii), .val (.int jj), .unset, .unset, .unset, .unset, .unset, .unset, .unset, .unset, .unset, .unset] [(.int (512 : Int32)), (.int ii)])) _
      refine XS.icmpNo X0.here hx rfl (hb hby at_24) rfl (tlt hc24_5).2.1 ?_
      show Steps p.tables e below (s₁.setTop (mkF m 27 #[.val (.int px), .val (.long pw), .second, .val (.long pv), .second, .val (.int lw), .val (.int ii), .val (.int jj), .unset, .unset, .unset, .unset, .unset, .unset, .unset, .unset, .unset, .unset] [])) _
      refine XS.sipush X0.here hx rfl (hb hby at_27) ?_
      show Steps p.tables e below (s₁.setTop (mkF m 30 #[.val (.int px), .val (.long pw), .second, .val (.long pv), .second, .val (.int lw), .val (.int ii), .val (.int jj), .unset, .unset, .unset, .unset, .unset, .unset, .unset, .unset, .unset, .unset] [(.int (512 : Int32))])) _
      refine XS.goto X0.here hx rfl (pc0 := 30) (pc' := 34) rfl (hb hby at_30) (by decide) (by decide) ?_
      show Steps p.tables e below (s₁.setTop (mkF m 34 #[.val (.int px), .val (.long pw), .second, .val (.long pv), .second, .val (.int lw), .val (.int ii), .val (.int jj), .unset, .unset, .unset, .unset, .unset, .unset, .unset, .unset, .unset, .unset] [(.int (512 : Int32))])) _
      refine XS.istore X0.here hx rfl (hb hby at_34) rfl (l' := #[.val (.int px), .val (.long pw), .second, .val (.long pv), .second, .val (.int lw), .val (.int ii), .val (.int jj), .val (.int (512 : Int32)), .unset, .unset, .unset, .unset, .unset, .unset, .unset, .unset, .unset]) rfl ?_
      show Steps p.tables e below (s₁.setTop (mkF m 36 #[.val (.int px), .val (.long pw), .second, .val (.long pv), .second, .val (.int lw), .val (.int ii), .val (.int jj), .val (.int (512 : Int32)), .unset, .unset, .unset, .unset, .unset, .unset, .unset, .unset, .unset] [])) _
      refine XS.sipush X0.here hx rfl (hb hby at_36) ?_
      show Steps p.tables e below (s₁.setTop (mkF m 39 #[.val (.int px), .val (.long pw), .second, .val (.long pv), .second, .val (.int lw), .val (.int ii), .val (.int jj), .val (.int (512 : Int32)), .unset, .unset, .unset, .unset, .unset, .unset, .unset, .unset, .unset] [(.int (1024 : Int32))])) _
      refine st6 _ ?_
      show Steps p.tables e below (T6.setTop (mkF m 41 #[.val (.int px), .val (.long pw), .second, .val (.long pv), .second, .val (.int lw), .val (.int ii), .val (.int jj), .val (.int (512 : Int32)), .unset, .unset, .unset, .unset, .unset, .unset, .unset, .unset, .unset] [(.ref b6)])) _
      refine XS.astore X6.here hx rfl (hb hby at_41) rfl rfl (l' := #[.val (.int px), .val (.long pw), .second, .val (.long pv), .second, .val (.int lw), .val (.int ii), .val (.int jj), .val (.int (512 : Int32)), .val (.ref b6), .unset, .unset, .unset, .unset, .unset, .unset, .unset, .unset]) rfl ?_
      show Steps p.tables e below (T6.setTop (mkF m 43 #[.val (.int px), .val (.long pw), .second, .val (.long pv), .second, .val (.int lw), .val (.int ii), .val (.int jj), .val (.int (512 : Int32)), .val (.ref b6), .unset, .unset, .unset, .unset, .unset, .unset, .unset, .unset] [])) _
      refine XS.aload X6.here hx rfl (hb hby at_43) rfl rfl ?_
      show Steps p.tables e below (T6.setTop (mkF m 45 #[.val (.int px), .val (.long pw), .second, .val (.long pv), .second, .val (.int lw), .val (.int ii), .val (.int jj), .val (.int (512 : Int32)), .val (.ref b6), .unset, .unset, .unset, .unset, .unset, .unset, .unset, .unset] [(.ref b6)])) _
      refine XS.iload X6.here hx rfl (hb hby at_45) rfl ?_
      show Steps p.tables e below (T6.setTop (mkF m 47 #[.val (.int px), .val (.long pw), .second, .val (.long pv), .second, .val (.int lw), .val (.int ii), .val (.int jj), .val (.int (512 : Int32)), .val (.ref b6), .unset, .unset, .unset, .unset, .unset, .unset, .unset, .unset] [(.int ii), (.ref b6)])) _
      refine XS.lloadN X6.here hx rfl (hb hby at_47) rfl ?_
      show Steps p.tables e below (T6.setTop (mkF m 48 #[.val (.int px), .val (.long pw), .second, .val (.long pv), .second, .val (.int lw), .val (.int ii), .val (.int jj), .val (.int (512 : Int32)), .val (.ref b6), .unset, .unset, .unset, .unset, .unset, .unset, .unset, .unset] [(.long pw), (.int ii), (.ref b6)])) _
      refine st8 _ ?_
      show Steps p.tables e below (T8.setTop (mkF m 49 #[.val (.int px), .val (.long pw), .second, .val (.long pv), .second, .val (.int lw), .val (.int ii), .val (.int jj), .val (.int (512 : Int32)), .val (.ref b6), .unset, .unset, .unset, .unset, .unset, .unset, .unset, .unset] [])) _
      refine XS.aload X8.here hx rfl (hb hby at_49) rfl rfl ?_
      show Steps p.tables e below (T8.setTop (mkF m 51 #[.val (.int px), .val (.long pw), .second, .val (.long pv), .second, .val (.int lw), .val (.int ii), .val (.int jj), .val (.int (512 : Int32)), .val (.ref b6), .unset, .unset, .unset, .unset, .unset, .unset, .unset, .unset] [(.ref b6)])) _
      refine XS.iload X8.here hx rfl (hb hby at_51) rfl ?_
      show Steps p.tables e below (T8.setTop (mkF m 53 #[.val (.int px), .val (.long pw), .second, .val (.long pv), .second, .val (.int lw), .val (.int ii), .val (.int jj), .val (.int (512 : Int32)), .val (.ref b6), .unset, .unset, .unset, .unset, .unset, .unset, .unset, .unset] [(.int jj), (.ref b6)])) _
      refine XS.lloadN X8.here hx rfl (hb hby at_53) rfl ?_
      show Steps p.tables e below (T8.setTop (mkF m 54 #[.val (.int px), .val (.long pw), .second, .val (.long pv), .second, .val (.int lw), .val (.int ii), .val (.int jj), .val (.int (512 : Int32)), .val (.ref b6), .unset, .unset, .unset, .unset, .unset, .unset, .unset, .unset] [(.long pv), (.int jj), (.ref b6)])) _
      refine st10 _ ?_
      show Steps p.tables e below (T10.setTop (mkF m 55 #[.val (.int px), .val (.long pw), .second, .val (.long pv), .second, .val (.int lw), .val (.int ii), .val (.int jj), .val (.int (512 : Int32)), .val (.ref b6), .unset, .unset, .unset, .unset, .unset, .unset, .unset, .unset] [])) _
      refine XS.aload X10.here hx rfl (hb hby at_55) rfl rfl ?_
      show Steps p.tables e below (T10.setTop (mkF m 57 #[.val (.int px), .val (.long pw), .second, .val (.long pv), .second, .val (.int lw), .val (.int ii), .val (.int jj), .val (.int (512 : Int32)), .val (.ref b6), .unset, .unset, .unset, .unset, .unset, .unset, .unset, .unset] [(.ref b6)])) _
      refine XS.iload X10.here hx rfl (hb hby at_57) rfl ?_
      show Steps p.tables e below (T10.setTop (mkF m 59 #[.val (.int px), .val (.long pw), .second, .val (.long pv), .second, .val (.int lw), .val (.int ii), .val (.int jj), .val (.int (512 : Int32)), .val (.ref b6), .unset, .unset, .unset, .unset, .unset, .unset, .unset, .unset] [(.int (512 : Int32)), (.ref b6)])) _
      refine XS.bipush X10.here hx rfl (hb hby at_59) ?_
      show Steps p.tables e below (T10.setTop (mkF m 61 #[.val (.int px), .val (.long pw), .second, .val (.long pv), .second, .val (.int lw), .val (.int ii), .val (.int jj), .val (.int (512 : Int32)), .val (.ref b6), .unset, .unset, .unset, .unset, .unset, .unset, .unset, .unset] [(.int (64 : Int32)), (.int (512 : Int32)), (.ref b6)])) _
      refine XS.imul X10.here hx rfl (hb hby at_61) rfl ?_
      show Steps p.tables e below (T10.setTop (mkF m 62 #[.val (.int px), .val (.long pw), .second, .val (.long pv), .second, .val (.int lw), .val (.int ii), .val (.int jj), .val (.int (512 : Int32)), .val (.ref b6), .unset, .unset, .unset, .unset, .unset, .unset, .unset, .unset] [(.int (32768 : Int32)), (.ref b6)])) _
      refine XS.iload X10.here hx rfl (hb hby at_62) rfl ?_
      show Steps p.tables e below (T10.setTop (mkF m 64 #[.val (.int px), .val (.long pw), .second, .val (.long pv), .second, .val (.int lw), .val (.int ii), .val (.int jj), .val (.int (512 : Int32)), .val (.ref b6), .unset, .unset, .unset, .unset, .unset, .unset, .unset, .unset] [(.int (512 : Int32)), (.int (32768 : Int32)), (.ref b6)])) _
      refine XS.bipush X10.here hx rfl (hb hby at_64) ?_
      show Steps p.tables e below (T10.setTop (mkF m 66 #[.val (.int px), .val (.long pw), .second, .val (.long pv), .second, .val (.int lw), .val (.int ii), .val (.int jj), .val (.int (512 : Int32)), .val (.ref b6), .unset, .unset, .unset, .unset, .unset, .unset, .unset, .unset] [(.int (64 : Int32)), (.int (512 : Int32)), (.int (32768 : Int32)), (.ref b6)])) _
      refine XS.imul X10.here hx rfl (hb hby at_66) rfl ?_
      show Steps p.tables e below (T10.setTop (mkF m 67 #[.val (.int px), .val (.long pw), .second, .val (.long pv), .second, .val (.int lw), .val (.int ii), .val (.int jj), .val (.int (512 : Int32)), .val (.ref b6), .unset, .unset, .unset, .unset, .unset, .unset, .unset, .unset] [(.int (32768 : Int32)), (.int (32768 : Int32)), (.ref b6)])) _
      refine XS.sipush X10.here hx rfl (hb hby at_67) ?_
      show Steps p.tables e below (T10.setTop (mkF m 70 #[.val (.int px), .val (.long pw), .second, .val (.long pv), .second, .val (.int lw), .val (.int ii), .val (.int jj), .val (.int (512 : Int32)), .val (.ref b6), .unset, .unset, .unset, .unset, .unset, .unset, .unset, .unset] [(.int (4224 : Int32)), (.int (32768 : Int32)), (.int (32768 : Int32)), (.ref b6)])) _
      refine XS.iadd X10.here hx rfl (hb hby at_70) rfl ?_
      show Steps p.tables e below (T10.setTop (mkF m 71 #[.val (.int px), .val (.long pw), .second, .val (.long pv), .second, .val (.int lw), .val (.int ii), .val (.int jj), .val (.int (512 : Int32)), .val (.ref b6), .unset, .unset, .unset, .unset, .unset, .unset, .unset, .unset] [(.int (36992 : Int32)), (.int (32768 : Int32)), (.ref b6)])) _
      refine st11 _ ?_
      show Steps p.tables e below (T11.setTop (mkF m 74 #[.val (.int px), .val (.long pw), .second, .val (.long pv), .second, .val (.int lw), .val (.int ii), .val (.int jj), .val (.int (512 : Int32)), .val (.ref b6), .unset, .unset, .unset, .unset, .unset, .unset, .unset, .unset] [(.int z11)])) _
      refine XS.istore X11.here hx rfl (hb hby at_74) rfl (l' := #[.val (.int px), .val (.long pw), .second, .val (.long pv), .second, .val (.int lw), .val (.int ii), .val (.int jj), .val (.int (512 : Int32)), .val (.ref b6), .val (.int z11), .unset, .unset, .unset, .unset, .unset, .unset, .unset]) rfl ?_
      show Steps p.tables e below (T11.setTop (mkF m 76 #[.val (.int px), .val (.long pw), .second, .val (.long pv), .second, .val (.int lw), .val (.int ii), .val (.int jj), .val (.int (512 : Int32)), .val (.ref b6), .val (.int z11), .unset, .unset, .unset, .unset, .unset, .unset, .unset] [])) _
      refine XS.iload X11.here hx rfl (hb hby at_76) rfl ?_
      show Steps p.tables e below (T11.setTop (mkF m 78 #[.val (.int px), .val (.long pw), .second, .val (.long pv), .second, .val (.int lw), .val (.int ii), .val (.int jj), .val (.int (512 : Int32)), .val (.ref b6), .val (.int z11), .unset, .unset, .unset, .unset, .unset, .unset, .unset] [(.int z11)])) _
      refine XS.lloadN X11.here hx rfl (hb hby at_78) rfl ?_
      show Steps p.tables e below (T11.setTop (mkF m 79 #[.val (.int px), .val (.long pw), .second, .val (.long pv), .second, .val (.int lw), .val (.int ii), .val (.int jj), .val (.int (512 : Int32)), .val (.ref b6), .val (.int z11), .unset, .unset, .unset, .unset, .unset, .unset, .unset] [(.long pw), (.int z11)])) _
      refine st12 _ ?_
      show Steps p.tables e below (T12.setTop (mkF m 82 #[.val (.int px), .val (.long pw), .second, .val (.long pv), .second, .val (.int lw), .val (.int ii), .val (.int jj), .val (.int (512 : Int32)), .val (.ref b6), .val (.int z11), .unset, .unset, .unset, .unset, .unset, .unset, .unset] [(.int z12), (.int z11)])) _
      refine XS.iadd X12.here hx rfl (hb hby at_82) rfl ?_
      show Steps p.tables e below (T12.setTop (mkF m 83 #[.val (.int px), .val (.long pw), .second, .val (.long pv), .second, .val (.int lw), .val (.int ii), .val (.int jj), .val (.int (512 : Int32)), .val (.ref b6), .val (.int z11), .unset, .unset, .unset, .unset, .unset, .unset, .unset] [(.int (z11 + z12))])) _
      refine XS.lloadN X12.here hx rfl (hb hby at_83) rfl ?_
      show Steps p.tables e below (T12.setTop (mkF m 84 #[.val (.int px), .val (.long pw), .second, .val (.long pv), .second, .val (.int lw), .val (.int ii), .val (.int jj), .val (.int (512 : Int32)), .val (.ref b6), .val (.int z11), .unset, .unset, .unset, .unset, .unset, .unset, .unset] [(.long pv), (.int (z11 + z12))])) _
      refine st13 _ ?_
      show Steps p.tables e below (T13.setTop (mkF m 87 #[.val (.int px), .val (.long pw), .second, .val (.long pv), .second, .val (.int lw), .val (.int ii), .val (.int jj), .val (.int (512 : Int32)), .val (.ref b6), .val (.int z11), .unset, .unset, .unset, .unset, .unset, .unset, .unset] [(.int z13), (.int (z11 + z12))])) _
      refine XS.iadd X13.here hx rfl (hb hby at_87) rfl ?_
      show Steps p.tables e below (T13.setTop (mkF m 88 #[.val (.int px), .val (.long pw), .second, .val (.long pv), .second, .val (.int lw), .val (.int ii), .val (.int jj), .val (.int (512 : Int32)), .val (.ref b6), .val (.int z11), .unset, .unset, .unset, .unset, .unset, .unset, .unset] [(.int ((z11 + z12) + z13))])) _
      refine XS.istore X13.here hx rfl (hb hby at_88) rfl (l' := #[.val (.int px), .val (.long pw), .second, .val (.long pv), .second, .val (.int lw), .val (.int ii), .val (.int jj), .val (.int (512 : Int32)), .val (.ref b6), .val (.int z11), .val (.int ((z11 + z12) + z13)), .unset, .unset, .unset, .unset, .unset, .unset]) rfl ?_
      show Steps p.tables e below (T13.setTop (mkF m 90 #[.val (.int px), .val (.long pw), .second, .val (.long pv), .second, .val (.int lw), .val (.int ii), .val (.int jj), .val (.int (512 : Int32)), .val (.ref b6), .val (.int z11), .val (.int ((z11 + z12) + z13)), .unset, .unset, .unset, .unset, .unset, .unset] [])) _
      exact kt
    obtain ⟨cd, h_cd⟩ : ∃ z : Int32, z = ((z11 + z12) + z13) := ⟨_, rfl⟩
    rw [← h_cd] at pre14
    obtain ⟨T15, h15, X15, e15, E15, A15, D15, -, st15⟩ := newO X13 hx hZ hown (hw _ (List.mem_of_getElem? (i := 25) rfl)) (hw _ (List.mem_of_getElem? (i := 26) rfl)) (hw _ (List.mem_of_getElem? (i := 27) rfl)) e13 (g := (mkF m 90 #[.val (.int px), .val (.long pw), .second, .val (.long pv), .second, .val (.int lw), .val (.int ii), .val (.int jj), .val (.int (512 : Int32)), .val (.ref b6), .val (.int z11), .val (.int cd), .unset, .unset, .unset, .unset, .unset, .unset] [])) rfl (hb hby at_90) (by decide) (by decide)
    obtain ⟨b15, g15⟩ : ∃ z, z = T11.heap.size := ⟨_, rfl⟩
    rw [← g15] at A15 D15 st15
    have g_b15 : n0 ≤ b15 := Nat.le_trans (Nat.le_trans Z0 Kc11.1) (Nat.le_of_eq g15.symm)
    have sz_b15 : h0.size ≤ b15 := Nat.le_trans Kc11.1 (Nat.le_of_eq g15.symm)
    have ne_b6_b15 : b6 ≠ b15 := Nat.ne_of_lt (Nat.lt_of_lt_of_le V11.lt (Nat.le_of_eq g15.symm))
    have Kc15 : Keep h0 h15 [] := Kc11.ext E15
    have F_words_b15 : Fld Z h15 b15 "com/example/bitgrove/bitgrove/HeapBitmapContainer" "words" "[J" .null := D15 (Or.inr (hw _ (List.mem_of_getElem? (i := 44) rfl))) (ty := (.array .long)) (by decide)
    have F_cardinality_b15 : Fld Z h15 b15 "com/example/bitgrove/bitgrove/HeapBitmapContainer" "cardinality" "I" (.int (0 : Int32)) := D15 (Or.inl (hw _ (List.mem_of_getElem? (i := 46) rfl))) (ty := .int) (by decide)
    obtain ⟨_, _, ⟨T16, L16, k16, n16⟩, -, X16, ⟨Lc16, hQ16, l16, y16, z16⟩, st16⟩ := X15.specialBack hx (y := (⟨"com/example/bitgrove/bitgrove/HeapBitmapContainer", "<init>", "([JI)V"⟩ : MethodName)) rfl hown (mvT hZ (hw _ (List.mem_of_getElem? (i := 28) rfl))) (mvT hZ (hw _ (List.mem_of_getElem? (i := 29) rfl))) (mvT hZ (hw _ (List.mem_of_getElem? (i := 30) rfl))) (by decide) (backOf (W := 1) (rm5 l Z a0 hw [] b15 b6 cd h15 n0 (Nat.le_trans Z0 Kc15.1) A15 g_b15 F_words_b15 F_cardinality_b15) hZ (hw _ (List.mem_of_getElem? (i := 30) rfl)) (hw _ (List.mem_of_getElem? (i := 27) rfl)) (by decide) (by decide)) (g := (mkF m 98 #[.val (.int px), .val (.long pw), .second, .val (.long pv), .second, .val (.int lw), .val (.int ii), .val (.int jj), .val (.int (512 : Int32)), .val (.ref b6), .val (.int z11), .val (.int cd), .unset, .unset, .unset, .unset, .unset, .unset] [(.int cd), (.ref b6), (.ref b15), (.ref b15)])) rfl (by rw [hml]; rfl) (Steps.refl _) (a := b15) (argsL := [(.ref b6), (.int cd)]) (rest := [(.ref b15)]) (lenOf pd_5 rfl) rfl (by show 2 * 0 + _ ≤ _; exact Nat.le_of_eq rfl) (hb hby at_98) (fun _ _ => ⟨rfl, e15, (by decide : 2 + 0 ≤ _), (by decide : 1026 + 0 ≤ _)⟩)
    dsimp only [Pt.U, Pt.locs, Pt.cells, Pt.slots] at X16 l16 y16 z16 st16 hQ16
    subst l16 y16 z16
    obtain ⟨rfl, N16q, K16, A16c, Fc0_16, Fc1_16⟩ := hQ16
    have N16 := Fr.app N13 N16q
    have Kc16 : Keep h0 T16.heap [] := Kc15.trans K16 (allS (Or.inr sz_b15) all0)
    have pre17 : ∀ tq, Steps p.tables e below (T16.setTop (mkF m 123 #[.val (.int px), .val (.long pw), .second, .val (.long pv), .second, .val (.int lw), .val (.int ii), .val (.int jj), .val (.int (512 : Int32)), .val (.ref b6), .val (.int z11), .val (.int cd), .val (.ref b15), .val (.long ((1 : Int64) <<< ((lw &&& (63 : Int32)).toInt64 &&& 63))), .second, .unset, .unset, .unset] [(.int (lcmpW ((XT.ushrL pw (lw &&& (63 : Int32))) &&& (1 : Int64)) (0 : Int64)))])) tq → Steps p.tables e below (s₁.setTop (entryFrame m #[(.int px), (.long pw), (.long pv)] maxLocals)) tq := by
      intro tq kt
      refine pre14 tq ?_
      show Steps p.tables e below (T13.setTop (mkF m 90 #[.val (.int px), .val (.long pw), .second, .val (.long pv), .second, .val (.int lw), .val (.int ii), .val (.int jj), .val (.int (512 : Int32)), .val (.ref b6), .val (.int z11), .val (.int cd), .unset, .unset, .unset, .unset, .unset, .unset] [])) _
      refine st15 _ ?_
      show Steps p.tables e below (T15.setTop (mkF m 93 #[.val (.int px), .val (.long pw), .second, .val (.long pv), .second, .val (.int lw), .val (.int ii), .val (.int jj), .val (.int (512 : Int32)), .val (.ref b6), .val (.int z11), .val (.int cd), .unset, .unset, .unset, .unset, .unset, .unset] [(.ref b15)])) _
      refine XS.dup X15.here hx rfl (hb hby at_93) rfl rfl ?_
      show Steps p.tables e below (T15.setTop (mkF m 94 #[.val (.int px), .val (.long pw), .second, .val (.long pv), .second, .val (.int lw), .val (.int ii), .val (.int jj), .val (.int (512 : Int32)), .val (.ref b6), .val (.int z11), .val (.int cd), .unset, .unset, .unset, .unset, .unset, .unset] [(.ref b15), (.ref b15)])) _
      refine XS.aload X15.here hx rfl (hb hby at_94) rfl rfl ?_
      show Steps p.tables e below (T15.setTop (mkF m 96 #[.val (.int px), .val (.long pw), .second, .val (.long pv), .second, .val (.int lw), .val (.int ii), .val (.int jj), .val (.int (512 : Int32)), .val (.ref b6), .val (.int z11), .val (.int cd), .unset, .unset, .unset, .unset, .unset, .unset] [(.ref b6), (.ref b15), (.ref b15)])) _
      refine XS.iload X15.here hx rfl (hb hby at_96) rfl ?_
      show Steps p.tables e below (T15.setTop (mkF m 98 #[.val (.int px), .val (.long pw), .second, .val (.long pv), .second, .val (.int lw), .val (.int ii), .val (.int jj), .val (.int (512 : Int32)), .val (.ref b6), .val (.int z11), .val (.int cd), .unset, .unset, .unset, .unset, .unset, .unset] [(.int cd), (.ref b6), (.ref b15), (.ref b15)])) _
      refine st16.trans ?_
      show Steps p.tables e below (T16.setTop (mkF m 101 #[.val (.int px), .val (.long pw), .second, .val (.long pv), .second, .val (.int lw), .val (.int ii), .val (.int jj), .val (.int (512 : Int32)), .val (.ref b6), .val (.int z11), .val (.int cd), .unset, .unset, .unset, .unset, .unset, .unset] [(.ref b15)])) _
      refine XS.astore X16.here hx rfl (hb hby at_101) rfl rfl (l' := #[.val (.int px), .val (.long pw), .second, .val (.long pv), .second, .val (.int lw), .val (.int ii), .val (.int jj), .val (.int (512 : Int32)), .val (.ref b6), .val (.int z11), .val (.int cd), .val (.ref b15), .unset, .unset, .unset, .unset, .unset]) rfl ?_
      show Steps p.tables e below (T16.setTop (mkF m 103 #[.val (.int px), .val (.long pw), .second, .val (.long pv), .second, .val (.int lw), .val (.int ii), .val (.int jj), .val (.int (512 : Int32)), .val (.ref b6), .val (.int z11), .val (.int cd), .val (.ref b15), .unset, .unset, .unset, .unset, .unset] [])) _
      refine XS.lconst X16.here hx rfl (hb hby at_103) ?_
      show Steps p.tables e below (T16.setTop (mkF m 104 #[.val (.int px), .val (.long pw), .second, .val (.long pv), .second, .val (.int lw), .val (.int ii), .val (.int jj), .val (.int (512 : Int32)), .val (.ref b6), .val (.int z11), .val (.int cd), .val (.ref b15), .unset, .unset, .unset, .unset, .unset] [(.long (1 : Int64))])) _
      refine XS.iload X16.here hx rfl (hb hby at_104) rfl ?_
      show Steps p.tables e below (T16.setTop (mkF m 106 #[.val (.int px), .val (.long pw), .second, .val (.long pv), .second, .val (.int lw), .val (.int ii), .val (.int jj), .val (.int (512 : Int32)), .val (.ref b6), .val (.int z11), .val (.int cd), .val (.ref b15), .unset, .unset, .unset, .unset, .unset] [(.int lw), (.long (1 : Int64))])) _
      refine XS.bipush X16.here hx rfl (hb hby at_106) ?_
      show Steps p.tables e below (T16.setTop (mkF m 108 #[.val (.int px), .val (.long pw), .second, .val (.long pv), .second, .val (.int lw), .val (.int ii), .val (.int jj), .val (.int (512 : Int32)), .val (.ref b6), .val (.int z11), .val (.int cd), .val (.ref b15), .unset, .unset, .unset, .unset, .unset] [(.int (63 : Int32)), (.int lw), (.long (1 : Int64))])) _
      refine XS.iand X16.here hx rfl (hb hby at_108) rfl ?_
      show Steps p.tables e below (T16.setTop (mkF m 109 #[.val (.int px), .val (.long pw), .second, .val (.long pv), .second, .val (.int lw), .val (.int ii), .val (.int jj), .val (.int (512 : Int32)), .val (.ref b6), .val (.int z11), .val (.int cd), .val (.ref b15), .unset, .unset, .unset, .unset, .unset] [(.int (lw &&& (63 : Int32))), (.long (1 : Int64))])) _
      refine XT.lshl X16.here hx rfl (hb hby at_109) rfl ?_
      show Steps p.tables e below (T16.setTop (mkF m 110 #[.val (.int px), .val (.long pw), .second, .val (.long pv), .second, .val (.int lw), .val (.int ii), .val (.int jj), .val (.int (512 : Int32)), .val (.ref b6), .val (.int z11), .val (.int cd), .val (.ref b15), .unset, .unset, .unset, .unset, .unset] [(.long ((1 : Int64) <<< ((lw &&& (63 : Int32)).toInt64 &&& 63)))])) _
      refine XS.lstore X16.here hx rfl (hb hby at_110) rfl (l' := #[.val (.int px), .val (.long pw), .second, .val (.long pv), .second, .val (.int lw), .val (.int ii), .val (.int jj), .val (.int (512 : Int32)), .val (.ref b6), .val (.int z11), .val (.int cd), .val (.ref b15), .val (.long ((1 : Int64) <<< ((lw &&& (63 : Int32)).toInt64 &&& 63))), .second, .unset, .unset, .unset]) rfl ?_
      show Steps p.tables e below (T16.setTop (mkF m 112 #[.val (.int px), .val (.long pw), .second, .val (.long pv), .second, .val (.int lw), .val (.int ii), .val (.int jj), .val (.int (512 : Int32)), .val (.ref b6), .val (.int z11), .val (.int cd), .val (.ref b15), .val (.long ((1 : Int64) <<< ((lw &&& (63 : Int32)).toInt64 &&& 63))), .second, .unset, .unset, .unset] [])) _
      refine XS.lloadN X16.here hx rfl (hb hby at_112) rfl ?_
      show Steps p.tables e below (T16.setTop (mkF m 113 #[.val (.int px), .val (.long pw), .second, .val (.long pv), .second, .val (.int lw), .val (.int ii), .val (.int jj), .val (.int (512 : Int32)), .val (.ref b6), .val (.int z11), .val (.int cd), .val (.ref b15), .val (.long ((1 : Int64) <<< ((lw &&& (63 : Int32)).toInt64 &&& 63))), .second, .unset, .unset, .unset] [(.long pw)])) _
      refine XS.iload X16.here hx rfl (hb hby at_113) rfl ?_
      show Steps p.tables e below (T16.setTop (mkF m 115 #[.val (.int px), .val (.long pw), .second, .val (.long pv), .second, .val (.int lw), .val (.int ii), .val (.int jj), .val (.int (512 : Int32)), .val (.ref b6), .val (.int z11), .val (.int cd), .val (.ref b15), .val (.long ((1 : Int64) <<< ((lw &&& (63 : Int32)).toInt64 &&& 63))), .second, .unset, .unset, .unset] [(.int lw), (.long pw)])) _
      refine XS.bipush X16.here hx rfl (hb hby at_115) ?_
      show Steps p.tables e below (T16.setTop (mkF m 117 #[.val (.int px), .val (.long pw), .second, .val (.long pv), .second, .val (.int lw), .val (.int ii), .val (.int jj), .val (.int (512 : Int32)), .val (.ref b6), .val (.int z11), .val (.int cd), .val (.ref b15), .val (.long ((1 : Int64) <<< ((lw &&& (63 : Int32)).toInt64 &&& 63))), .second, .unset, .unset, .unset] [(.int (63 : Int32)), (.int lw), (.long pw)])) _
      refine XS.iand X16.here hx rfl (hb hby at_117) rfl ?_
      show Steps p.tables e below (T16.setTop (mkF m 118 #[.val (.int px), .val (.long pw), .second, .val (.long pv), .second, .val (.int lw), .val (.int ii), .val (.int jj), .val (.int (512 : Int32)), .val (.ref b6), .val (.int z11), .val (.int cd), .val (.ref b15), .val (.long ((1 : Int64) <<< ((lw &&& (63 : Int32)).toInt64 &&& 63))), .second, .unset, .unset, .unset] [(.int (lw &&& (63 : Int32))), (.long pw)])) _
      refine XT.lushr X16.here hx rfl (hb hby at_118) rfl ?_
      show Steps p.tables e below (T16.setTop (mkF m 119 #[.val (.int px), .val (.long pw), .second, .val (.long pv), .second, .val (.int lw), .val (.int ii), .val (.int jj), .val (.int (512 : Int32)), .val (.ref b6), .val (.int z11), .val (.int cd), .val (.ref b15), .val (.long ((1 : Int64) <<< ((lw &&& (63 : Int32)).toInt64 &&& 63))), .second, .unset, .unset, .unset] [(.long (XT.ushrL pw (lw &&& (63 : Int32))))])) _
      refine XS.lconst X16.here hx rfl (hb hby at_119) ?_
      show Steps p.tables e below (T16.setTop (mkF m 120 #[.val (.int px), .val (.long pw), .second, .val (.long pv), .second, .val (.int lw), .val (.int ii), .val (.int jj), .val (.int (512 : Int32)), .val (.ref b6), .val (.int z11), .val (.int cd), .val (.ref b15), .val (.long ((1 : Int64) <<< ((lw &&& (63 : Int32)).toInt64 &&& 63))), .second, .unset, .unset, .unset] [(.long (1 : Int64)), (.long (XT.ushrL pw (lw &&& (63 : Int32))))])) _
      refine XS.land X16.here hx rfl (hb hby at_120) rfl ?_
      show Steps p.tables e below (T16.setTop (mkF m 121 #[.val (.int px), .val (.long pw), .second, .val (.long pv), .second, .val (.int lw), .val (.int ii), .val (.int jj), .val (.int (512 : Int32)), .val (.ref b6), .val (.int z11), .val (.int cd), .val (.ref b15), .val (.long ((1 : Int64) <<< ((lw &&& (63 : Int32)).toInt64 &&& 63))), .second, .unset, .unset, .unset] [(.long ((XT.ushrL pw (lw &&& (63 : Int32))) &&& (1 : Int64)))])) _
      refine XS.lconst X16.here hx rfl (hb hby at_121) ?_
      show Steps p.tables e below (T16.setTop (mkF m 122 #[.val (.int px), .val (.long pw), .second, .val (.long pv), .second, .val (.int lw), .val (.int ii), .val (.int jj), .val (.int (512 : Int32)), .val (.ref b6), .val (.int z11), .val (.int cd), .val (.ref b15), .val (.long ((1 : Int64) <<< ((lw &&& (63 : Int32)).toInt64 &&& 63))), .second, .unset, .unset, .unset] [(.long (0 : Int64)), (.long ((XT.ushrL pw (lw &&& (63 : Int32))) &&& (1 : Int64)))])) _
      refine XS.lcmp X16.here hx rfl (hb hby at_122) rfl ?_
      show Steps p.tables e below (T16.setTop (mkF m 123 #[.val (.int px), .val (.long pw), .second, .val (.long pv), .second, .val (.int lw), .val (.int ii), .val (.int jj), .val (.int (512 : Int32)), .val (.ref b6), .val (.int z11), .val (.int cd), .val (.ref b15), .val (.long ((1 : Int64) <<< ((lw &&& (63 : Int32)).toInt64 &&& 63))), .second, .unset, .unset, .unset] [(.int (lcmpW ((XT.ushrL pw (lw &&& (63 : Int32))) &&& (1 : Int64)) (0 : Int64)))])) _
      exact kt
    by_cases hc123_18 : (lcmpW ((XT.ushrL pw (lw &&& (63 : Int32))) &&& (1 : Int64)) (0 : Int64)) = (0 : Int32)
    · have hbw := own_bits pw _ _ ((1 : Int64) <<< (lw.toInt64 &&& 63)) (own_klt lw) (own_k64 lw) (own_k32 lw) rfl
      have hfw : f11 ((lw.toUInt32 >>> ((6 : Int32) &&& 31).toUInt32).toInt32).toNatClampNeg = pw := by rw [← h_ii]; exact hwi
      have hab := hbw.1 ((lw_eq _ _).mp hc123_18)
      obtain ⟨cq19, kq19, q19a, q19b, q19c⟩ := isOf hZ rfl A16c
      obtain ⟨_, _, ⟨T19, L19, k19, n19⟩, -, X19, ⟨Lc19, hQ19, l19, y19, z19⟩, st19⟩ := X16.virtualBack hx (y := (⟨"com/example/bitgrove/bitgrove/HeapBitmapContainer", "add", "(I)Lcom/example/bitgrove/bitgrove/Container;"⟩ : MethodName)) (z := (⟨"com/example/bitgrove/bitgrove/HeapBitmapContainer", "add", "(I)Lcom/example/bitgrove/bitgrove/Container;"⟩ : MethodName)) hown (mvT hZ (hw _ (List.mem_of_getElem? (i := 47) rfl))) (mvT hZ (hw _ (List.mem_of_getElem? (i := 48) rfl))) (notFace_of_selects (args := #[]) (mvT hZ (hw _ (List.mem_of_getElem? (i := 50) rfl)))) (mvT hZ (hw _ (List.mem_of_getElem? (i := 50) rfl))) (mvT hZ (hw _ (List.mem_of_getElem? (i := 49) rfl))) (by decide) (backOf (W := 0) (rm9y l Z a0 hw [] b15 lw b6 f11 cd T16.heap n0 (Nat.le_trans Z0 Kc16.1) A16c Fc0_16 Fc1_16 ((V11.ext E15).keep K16 (ninS ne_b6_b15 nin0)) g_b15 g_b6 (Ne.symm ne_b6_b15) (h_ii ▸ ri0) (h_ii ▸ ri1) (by rw [hfw, lw_eq]; exact hab.1)) hZ (hw _ (List.mem_of_getElem? (i := 51) rfl)) (hw _ (List.mem_of_getElem? (i := 27) rfl)) (by decide) (by decide)) q19a q19c (g := (mkF m 137 #[.val (.int px), .val (.long pw), .second, .val (.long pv), .second, .val (.int lw), .val (.int ii), .val (.int jj), .val (.int (512 : Int32)), .val (.ref b6), .val (.int z11), .val (.int cd), .val (.ref b15), .val (.long ((1 : Int64) <<< ((lw &&& (63 : Int32)).toInt64 &&& 63))), .second, .val (.int (1 : Int32)), .unset, .unset] [(.int lw), (.ref b15)])) rfl (by rw [hml]; rfl) (Steps.refl _) (argsL := [(.int lw)]) (rest := []) (lenOf pd_6 rfl) rfl (by show 2 * 0 + _ ≤ _; exact Nat.le_of_eq rfl) (hb hby at_137) (fun _ _ => ⟨rfl, rfl, (by decide : 2 + 0 ≤ _), (by decide : 1026 + 0 ≤ _)⟩)
      dsimp only [Pt.U, Pt.locs, Pt.cells, Pt.slots] at X19 l19 y19 z19 st19 hQ19
      subst l19 y19 z19
      obtain ⟨f19, rfl, N19q, K19, A19c, Fc0_19, Fc1_19, V19, hf19⟩ := hQ19
      have N19 := Fr.app N16 N19q
      have Kc19 : Keep h0 T19.heap [] := Kc16.trans K19 (allS (Or.inr sz_b15) (allS (Or.inr sz_b6) all0))
      have hni : f19 ii.toNatClampNeg = (pw ||| ((1 : Int64) <<< (lw.toInt64 &&& 63))) := by
        rw [hf19, ← h_ii, hwi]
        exact if_pos rfl
      have hnj : f19 jj.toNatClampNeg = pv := by
        rw [hf19, ← h_ii]
        show (if jj.toNatClampNeg = ii.toNatClampNeg then _ else f11 jj.toNatClampNeg) = pv
        rw [if_neg (by have := own_nat (j := ii) ri0; have := own_nat (j := jj) rj0; omega)]
        exact hvj
      obtain ⟨cq20, kq20, q20a, q20b, q20c⟩ := isOf hZ rfl A19c
      obtain ⟨_, _, ⟨T20, L20, k20, n20⟩, -, X20, ⟨Lc20, hQ20, l20, y20, z20⟩, st20⟩ := X19.virtualBack hx (y := (⟨"com/example/bitgrove/bitgrove/HeapBitmapContainer", "word", "(I)J"⟩ : MethodName)) (z := (⟨"com/example/bitgrove/bitgrove/HeapBitmapContainer", "word", "(I)J"⟩ : MethodName)) hown (mvT hZ (hw _ (List.mem_of_getElem? (i := 52) rfl))) (mvT hZ (hw _ (List.mem_of_getElem? (i := 53) rfl))) (notFace_of_selects (args := #[]) (mvT hZ (hw _ (List.mem_of_getElem? (i := 55) rfl)))) (mvT hZ (hw _ (List.mem_of_getElem? (i := 55) rfl))) (mvT hZ (hw _ (List.mem_of_getElem? (i := 54) rfl))) (by decide) (backOf (W := 0) (rm10 l Z a0 hw [] b15 jj b6 f19 T19.heap n0 (Nat.le_trans Z0 Kc19.1) Fc0_19 V19 rj0 rj1) hZ (hw _ (List.mem_of_getElem? (i := 56) rfl)) (hw _ (List.mem_of_getElem? (i := 27) rfl)) (by decide) (by decide)) q20a q20c (g := (mkF m 146 #[.val (.int px), .val (.long pw), .second, .val (.long pv), .second, .val (.int lw), .val (.int ii), .val (.int jj), .val (.int (512 : Int32)), .val (.ref b6), .val (.int z11), .val (.int cd), .val (.ref b15), .val (.long ((1 : Int64) <<< ((lw &&& (63 : Int32)).toInt64 &&& 63))), .second, .val (.int (1 : Int32)), .val (.ref b15), .unset] [(.int jj), (.ref b15)])) rfl (by rw [hml]; rfl) (Steps.refl _) (argsL := [(.int jj)]) (rest := []) (lenOf pd_3 rfl) rfl (by show 2 * 0 + _ ≤ _; exact Nat.le_of_eq rfl) (hb hby at_146) (fun _ _ => ⟨rfl, rfl, (by decide : 2 + 0 ≤ _), (by decide : 1026 + 0 ≤ _)⟩)
      dsimp only [Pt.U, Pt.locs, Pt.cells, Pt.slots] at X20 l20 y20 z20 st20 hQ20
      subst l20 y20 z20
      obtain ⟨rfl, N20q, e20⟩ := hQ20
      have N20 := Fr.app N19 N20q
      rw [hnj] at st20
      obtain ⟨cq21, kq21, q21a, q21b, q21c⟩ := isOf hZ e20 A19c
      obtain ⟨_, _, ⟨T21, L21, k21, n21⟩, -, X21, ⟨Lc21, hQ21, l21, y21, z21⟩, st21⟩ := X20.virtualBackUp hx (x := (⟨"com/example/bitgrove/bitgrove/HeapBitmapContainer", "contains", "(I)Z"⟩ : MethodName)) (y := (⟨"com/example/bitgrove/bitgrove/BitmapContainer", "contains", "(I)Z"⟩ : MethodName)) hown (mvT hZ (hw _ (List.mem_of_getElem? (i := 57) rfl))) (mvT hZ (hw _ (List.mem_of_getElem? (i := 58) rfl))) (mvT hZ (hw _ (List.mem_of_getElem? (i := 59) rfl))) (by decide) (mvT hZ (hw _ (List.mem_of_getElem? (i := 61) rfl))) (mvT hZ (hw _ (List.mem_of_getElem? (i := 60) rfl))) (backOf (W := 0) (rm11 l Z a0 hw [] b15 lw b6 f19 T19.heap n0 (Nat.le_trans Z0 Kc19.1) A19c Fc0_19 V19 (h_ii ▸ ri0) (h_ii ▸ ri1)) hZ (hw _ (List.mem_of_getElem? (i := 62) rfl)) (hw _ (List.mem_of_getElem? (i := 4) rfl)) (by decide) (by decide)) q21a q21c (g := (mkF m 158 #[.val (.int px), .val (.long pw), .second, .val (.long pv), .second, .val (.int lw), .val (.int ii), .val (.int jj), .val (.int (512 : Int32)), .val (.ref b6), .val (.int z11), .val (.int cd), .val (.ref b15), .val (.long ((1 : Int64) <<< ((lw &&& (63 : Int32)).toInt64 &&& 63))), .second, .val (.int (1 : Int32)), .val (.ref b15), .unset] [(.int lw), (.ref b15)])) rfl (by rw [hml]; rfl) (Steps.refl _) (argsL := [(.int lw)]) (rest := []) (lenOf pd_7 rfl) rfl (by show 2 * 0 + _ ≤ _; exact Nat.le_of_eq rfl) (hb hby at_158) (fun _ _ => ⟨rfl, e20, (by decide : 2 + 0 ≤ _), (by decide : 1026 + 0 ≤ _)⟩)
      dsimp only [Pt.U, Pt.locs, Pt.cells, Pt.slots] at X21 l21 y21 z21 st21 hQ21
      subst l21 y21 z21
      obtain ⟨rfl, N21q, e21⟩ := hQ21
      have N21 := Fr.app N20 N21q
      obtain ⟨cq22, kq22, q22a, q22b, q22c⟩ := isOf hZ e21 A19c
      obtain ⟨_, _, ⟨T22, L22, k22, n22⟩, -, X22, ⟨Lc22, hQ22, l22, y22, z22⟩, st22⟩ := X21.virtualBack hx (y := (⟨"com/example/bitgrove/bitgrove/HeapBitmapContainer", "word", "(I)J"⟩ : MethodName)) (z := (⟨"com/example/bitgrove/bitgrove/HeapBitmapContainer", "word", "(I)J"⟩ : MethodName)) hown (mvT hZ (hw _ (List.mem_of_getElem? (i := 52) rfl))) (mvT hZ (hw _ (List.mem_of_getElem? (i := 53) rfl))) (notFace_of_selects (args := #[]) (mvT hZ (hw _ (List.mem_of_getElem? (i := 55) rfl)))) (mvT hZ (hw _ (List.mem_of_getElem? (i := 55) rfl))) (mvT hZ (hw _ (List.mem_of_getElem? (i := 54) rfl))) (by decide) (backOf (W := 0) (rm10 l Z a0 hw [] b15 ii b6 f19 T19.heap n0 (Nat.le_trans Z0 Kc19.1) Fc0_19 V19 ri0 ri1) hZ (hw _ (List.mem_of_getElem? (i := 56) rfl)) (hw _ (List.mem_of_getElem? (i := 27) rfl)) (by decide) (by decide)) q22a q22c (g := (mkF m 192 #[.val (.int px), .val (.long pw), .second, .val (.long pv), .second, .val (.int lw), .val (.int ii), .val (.int jj), .val (.int (512 : Int32)), .val (.ref b6), .val (.int z11), .val (.int cd), .val (.ref b15), .val (.long ((1 : Int64) <<< ((lw &&& (63 : Int32)).toInt64 &&& 63))), .second, .val (.int (1 : Int32)), .val (.ref b15), .val (.int (1 : Int32))] [(.int ii), (.ref b15)])) rfl (by rw [hml]; rfl) (Steps.refl _) (argsL := [(.int ii)]) (rest := []) (lenOf pd_3 rfl) rfl (by show 2 * 0 + _ ≤ _; exact Nat.le_of_eq rfl) (hb hby at_192) (fun _ _ => ⟨rfl, e21, (by decide : 2 + 0 ≤ _), (by decide : 1026 + 0 ≤ _)⟩)
      dsimp only [Pt.U, Pt.locs, Pt.cells, Pt.slots] at X22 l22 y22 z22 st22 hQ22
      subst l22 y22 z22
      obtain ⟨rfl, N22q, e22⟩ := hQ22
      have N22 := Fr.app N21 N22q
      rw [hni] at st22
      obtain ⟨cq23, kq23, q23a, q23b, q23c⟩ := isOf hZ e22 A19c
      obtain ⟨_, _, ⟨T23, L23, k23, n23⟩, -, X23, ⟨Lc23, hQ23, l23, y23, z23⟩, st23⟩ := X22.virtualBack hx (y := (⟨"com/example/bitgrove/bitgrove/HeapBitmapContainer", "cardinality", "()I"⟩ : MethodName)) (z := (⟨"com/example/bitgrove/bitgrove/HeapBitmapContainer", "cardinality", "()I"⟩ : MethodName)) hown (mvT hZ (hw _ (List.mem_of_getElem? (i := 66) rfl))) (mvT hZ (hw _ (List.mem_of_getElem? (i := 67) rfl))) (notFace_of_selects (args := #[]) (mvT hZ (hw _ (List.mem_of_getElem? (i := 69) rfl)))) (mvT hZ (hw _ (List.mem_of_getElem? (i := 69) rfl))) (mvT hZ (hw _ (List.mem_of_getElem? (i := 68) rfl))) (by decide) (backOf (W := 0) (rm12 l Z a0 hw [] b15 (cd + (1 : Int32)) T19.heap n0 (Nat.le_trans Z0 Kc19.1) Fc1_19) hZ (hw _ (List.mem_of_getElem? (i := 70) rfl)) (hw _ (List.mem_of_getElem? (i := 27) rfl)) (by decide) (by decide)) q23a q23c (g := (mkF m 205 #[.val (.int px), .val (.long pw), .second, .val (.long pv), .second, .val (.int lw), .val (.int ii), .val (.int jj), .val (.int (512 : Int32)), .val (.ref b6), .val (.int z11), .val (.int cd), .val (.ref b15), .val (.long ((1 : Int64) <<< ((lw &&& (63 : Int32)).toInt64 &&& 63))), .second, .val (.int (1 : Int32)), .val (.ref b15), .val (.int (1 : Int32))] [(.ref b15)])) rfl (by rw [hml]; rfl) (Steps.refl _) (argsL := []) (rest := []) (lenOf pd_8 rfl) rfl (by show 2 * 0 + _ ≤ _; exact Nat.le_of_eq rfl) (hb hby at_205) (fun _ _ => ⟨rfl, e22, (by decide : 2 + 0 ≤ _), (by decide : 1026 + 0 ≤ _)⟩)
      dsimp only [Pt.U, Pt.locs, Pt.cells, Pt.slots] at X23 l23 y23 z23 st23 hQ23
      subst l23 y23 z23
      obtain ⟨rfl, N23q, e23⟩ := hQ23
      have N23 := Fr.app N22 N23q
      obtain ⟨fs, hr, hrun, hended, hW, hsame⟩ := X23.leave (v := some (.int (1 : Int32))) (fun h => by rw [Bd.returns] at h; cases h)
      refine ⟨_, _, pre17 _ ?_, hrun, hended, _, _, rfl, ?_, ⟨_, rfl⟩, hW, hsame.mono (by decide) (by decide)⟩
      · show Steps p.tables e below (T16.setTop (mkF m 123 #[.val (.int px), .val (.long pw), .second, .val (.long pv), .second, .val (.int lw), .val (.int ii), .val (.int jj), .val (.int (512 : Int32)), .val (.ref b6), .val (.int z11), .val (.int cd), .val (.ref b15), .val (.long ((1 : Int64) <<< ((lw &&& (63 : Int32)).toInt64 &&& 63))), .second, .unset, .unset, .unset] [(.int (lcmpW ((XT.ushrL pw (lw &&& (63 : Int32))) &&& (1 : Int64)) (0 : Int64)))])) _
        refine XS.ifNo X16.here hx rfl (hb hby at_123) rfl ((if0 _ _).trans (teq hc123_18).2) ?_
        show Steps p.tables e below (T16.setTop (mkF m 126 #[.val (.int px), .val (.long pw), .second, .val (.long pv), .second, .val (.int lw), .val (.int ii), .val (.int jj), .val (.int (512 : Int32)), .val (.ref b6), .val (.int z11), .val (.int cd), .val (.ref b15), .val (.long ((1 : Int64) <<< ((lw &&& (63 : Int32)).toInt64 &&& 63))), .second, .unset, .unset, .unset] [])) _
        refine XS.iconst X16.here hx rfl (hb hby at_126) ?_
        show Steps p.tables e below (T16.setTop (mkF m 127 #[.val (.int px), .val (.long pw), .second, .val (.long pv), .second, .val (.int lw), .val (.int ii), .val (.int jj), .val (.int (512 : Int32)), .val (.ref b6), .val (.int z11), .val (.int cd), .val (.ref b15), .val (.long ((1 : Int64) <<< ((lw &&& (63 : Int32)).toInt64 &&& 63))), .second, .unset, .unset, .unset] [(.int (1 : Int32))])) _
        refine XS.goto X16.here hx rfl (pc0 := 127) (pc' := 131) rfl (hb hby at_127) (by decide) (by decide) ?_
        show Steps p.tables e below (T16.setTop (mkF m 131 #[.val (.int px), .val (.long pw), .second, .val (.long pv), .second, .val (.int lw), .val (.int ii), .val (.int jj), .val (.int (512 : Int32)), .val (.ref b6), .val (.int z11), .val (.int cd), .val (.ref b15), .val (.long ((1 : Int64) <<< ((lw &&& (63 : Int32)).toInt64 &&& 63))), .second, .unset, .unset, .unset] [(.int (1 : Int32))])) _
        refine XS.istore X16.here hx rfl (hb hby at_131) rfl (l' := #[.val (.int px), .val (.long pw), .second, .val (.long pv), .second, .val (.int lw), .val (.int ii), .val (.int jj), .val (.int (512 : Int32)), .val (.ref b6), .val (.int z11), .val (.int cd), .val (.ref b15), .val (.long ((1 : Int64) <<< ((lw &&& (63 : Int32)).toInt64 &&& 63))), .second, .val (.int (1 : Int32)), .unset, .unset]) rfl ?_
        show Steps p.tables e below (T16.setTop (mkF m 133 #[.val (.int px), .val (.long pw), .second, .val (.long pv), .second, .val (.int lw), .val (.int ii), .val (.int jj), .val (.int (512 : Int32)), .val (.ref b6), .val (.int z11), .val (.int cd), .val (.ref b15), .val (.long ((1 : Int64) <<< ((lw &&& (63 : Int32)).toInt64 &&& 63))), .second, .val (.int (1 : Int32)), .unset, .unset] [])) _
        refine XS.aload X16.here hx rfl (hb hby at_133) rfl rfl ?_
        show Steps p.tables e below (T16.setTop (mkF m 135 #[.val (.int px), .val (.long pw), .second, .val (.long pv), .second, .val (.int lw), .val (.int ii), .val (.int jj), .val (.int (512 : Int32)), .val (.ref b6), .val (.int z11), .val (.int cd), .val (.ref b15), .val (.long ((1 : Int64) <<< ((lw &&& (63 : Int32)).toInt64 &&& 63))), .second, .val (.int (1 : Int32)), .unset, .unset] [(.ref b15)])) _
        refine XS.iload X16.here hx rfl (hb hby at_135) rfl ?_
        show Steps p.tables e below (T16.setTop (mkF m 137 #[.val (.int px), .val (.long pw), .second, .val (.long pv), .second, .val (.int lw), .val (.int ii), .val (.int jj), .val (.int (512 : Int32)), .val (.ref b6), .val (.int z11), .val (.int cd), .val (.ref b15), .val (.long ((1 : Int64) <<< ((lw &&& (63 : Int32)).toInt64 &&& 63))), .second, .val (.int (1 : Int32)), .unset, .unset] [(.int lw), (.ref b15)])) _
        refine st19.trans ?_
        show Steps p.tables e below (T19.setTop (mkF m 140 #[.val (.int px), .val (.long pw), .second, .val (.long pv), .second, .val (.int lw), .val (.int ii), .val (.int jj), .val (.int (512 : Int32)), .val (.ref b6), .val (.int z11), .val (.int cd), .val (.ref b15), .val (.long ((1 : Int64) <<< ((lw &&& (63 : Int32)).toInt64 &&& 63))), .second, .val (.int (1 : Int32)), .unset, .unset] [(.ref b15)])) _
        refine XS.astore X19.here hx rfl (hb hby at_140) rfl rfl (l' := #[.val (.int px), .val (.long pw), .second, .val (.long pv), .second, .val (.int lw), .val (.int ii), .val (.int jj), .val (.int (512 : Int32)), .val (.ref b6), .val (.int z11), .val (.int cd), .val (.ref b15), .val (.long ((1 : Int64) <<< ((lw &&& (63 : Int32)).toInt64 &&& 63))), .second, .val (.int (1 : Int32)), .val (.ref b15), .unset]) rfl ?_
        show Steps p.tables e below (T19.setTop (mkF m 142 #[.val (.int px), .val (.long pw), .second, .val (.long pv), .second, .val (.int lw), .val (.int ii), .val (.int jj), .val (.int (512 : Int32)), .val (.ref b6), .val (.int z11), .val (.int cd), .val (.ref b15), .val (.long ((1 : Int64) <<< ((lw &&& (63 : Int32)).toInt64 &&& 63))), .second, .val (.int (1 : Int32)), .val (.ref b15), .unset] [])) _
        refine XS.aload X19.here hx rfl (hb hby at_142) rfl rfl ?_
        show Steps p.tables e below (T19.setTop (mkF m 144 #[.val (.int px), .val (.long pw), .second, .val (.long pv), .second, .val (.int lw), .val (.int ii), .val (.int jj), .val (.int (512 : Int32)), .val (.ref b6), .val (.int z11), .val (.int cd), .val (.ref b15), .val (.long ((1 : Int64) <<< ((lw &&& (63 : Int32)).toInt64 &&& 63))), .second, .val (.int (1 : Int32)), .val (.ref b15), .unset] [(.ref b15)])) _
        refine XS.iload X19.here hx rfl (hb hby at_144) rfl ?_
        show Steps p.tables e below (T19.setTop (mkF m 146 #[.val (.int px), .val (.long pw), .second, .val (.long pv), .second, .val (.int lw), .val (.int ii), .val (.int jj), .val (.int (512 : Int32)), .val (.ref b6), .val (.int z11), .val (.int cd), .val (.ref b15), .val (.long ((1 : Int64) <<< ((lw &&& (63 : Int32)).toInt64 &&& 63))), .second, .val (.int (1 : Int32)), .val (.ref b15), .unset] [(.int jj), (.ref b15)])) _
        refine st20.trans ?_
        show Steps p.tables e below (T20.setTop (mkF m 149 #[.val (.int px), .val (.long pw), .second, .val (.long pv), .second, .val (.int lw), .val (.int ii), .val (.int jj), .val (.int (512 : Int32)), .val (.ref b6), .val (.int z11), .val (.int cd), .val (.ref b15), .val (.long ((1 : Int64) <<< ((lw &&& (63 : Int32)).toInt64 &&& 63))), .second, .val (.int (1 : Int32)), .val (.ref b15), .unset] [(.long pv)])) _
        refine XS.lloadN X20.here hx rfl (hb hby at_149) rfl ?_
        show Steps p.tables e below (T20.setTop (mkF m 150 #[.val (.int px), .val (.long pw), .second, .val (.long pv), .second, .val (.int lw), .val (.int ii), .val (.int jj), .val (.int (512 : Int32)), .val (.ref b6), .val (.int z11), .val (.int cd), .val (.ref b15), .val (.long ((1 : Int64) <<< ((lw &&& (63 : Int32)).toInt64 &&& 63))), .second, .val (.int (1 : Int32)), .val (.ref b15), .unset] [(.long pv), (.long pv)])) _
        refine XS.lcmp X20.here hx rfl (hb hby at_150) rfl ?_
        show Steps p.tables e below (T20.setTop (mkF m 151 #[.val (.int px), .val (.long pw), .second, .val (.long pv), .second, .val (.int lw), .val (.int ii), .val (.int jj), .val (.int (512 : Int32)), .val (.ref b6), .val (.int z11), .val (.int cd), .val (.ref b15), .val (.long ((1 : Int64) <<< ((lw &&& (63 : Int32)).toInt64 &&& 63))), .second, .val (.int (1 : Int32)), .val (.ref b15), .unset] [(.int (lcmpW pv pv))])) _
        refine XS.ifNo X20.here hx rfl (hb hby at_151) rfl ((if0 _ _).trans (teq ((lw_eq _ _).mpr rfl : (lcmpW pv pv) = (0 : Int32))).2) ?_
        show Steps p.tables e below (T20.setTop (mkF m 154 #[.val (.int px), .val (.long pw), .second, .val (.long pv), .second, .val (.int lw), .val (.int ii), .val (.int jj), .val (.int (512 : Int32)), .val (.ref b6), .val (.int z11), .val (.int cd), .val (.ref b15), .val (.long ((1 : Int64) <<< ((lw &&& (63 : Int32)).toInt64 &&& 63))), .second, .val (.int (1 : Int32)), .val (.ref b15), .unset] [])) _
        refine XS.aload X20.here hx rfl (hb hby at_154) rfl rfl ?_
        show Steps p.tables e below (T20.setTop (mkF m 156 #[.val (.int px), .val (.long pw), .second, .val (.long pv), .second, .val (.int lw), .val (.int ii), .val (.int jj), .val (.int (512 : Int32)), .val (.ref b6), .val (.int z11), .val (.int cd), .val (.ref b15), .val (.long ((1 : Int64) <<< ((lw &&& (63 : Int32)).toInt64 &&& 63))), .second, .val (.int (1 : Int32)), .val (.ref b15), .unset] [(.ref b15)])) _
        refine XS.iload X20.here hx rfl (hb hby at_156) rfl ?_
        show Steps p.tables e below (T20.setTop (mkF m 158 #[.val (.int px), .val (.long pw), .second, .val (.long pv), .second, .val (.int lw), .val (.int ii), .val (.int jj), .val (.int (512 : Int32)), .val (.ref b6), .val (.int z11), .val (.int cd), .val (.ref b15), .val (.long ((1 : Int64) <<< ((lw &&& (63 : Int32)).toInt64 &&& 63))), .second, .val (.int (1 : Int32)), .val (.ref b15), .unset] [(.int lw), (.ref b15)])) _
        refine st21.trans ?_
        show Steps p.tables e below (T21.setTop (mkF m 161 #[.val (.int px), .val (.long pw), .second, .val (.long pv), .second, .val (.int lw), .val (.int ii), .val (.int jj), .val (.int (512 : Int32)), .val (.ref b6), .val (.int z11), .val (.int cd), .val (.ref b15), .val (.long ((1 : Int64) <<< ((lw &&& (63 : Int32)).toInt64 &&& 63))), .second, .val (.int (1 : Int32)), .val (.ref b15), .unset] [(.int (contF lw f19))])) _
        refine XS.ifNo X21.here hx rfl (hb hby at_161) rfl ((if0 _ _).trans (feq (by unfold contF; rw [if_neg (show ¬ ((lcmpW (f19 ((lw.toUInt32 >>> ((6 : Int32) &&& 31).toUInt32).toInt32).toNatClampNeg &&& ((1 : Int64) <<< (lw.toInt64 &&& 63))) (0 : Int64)) = (0 : Int32)) from by rw [lw_eq, ← h_ii, hni]; exact hbw.2.2)]; decide : ¬ ((contF lw f19) = (0 : Int32)))).1) ?_
        show Steps p.tables e below (T21.setTop (mkF m 164 #[.val (.int px), .val (.long pw), .second, .val (.long pv), .second, .val (.int lw), .val (.int ii), .val (.int jj), .val (.int (512 : Int32)), .val (.ref b6), .val (.int z11), .val (.int cd), .val (.ref b15), .val (.long ((1 : Int64) <<< ((lw &&& (63 : Int32)).toInt64 &&& 63))), .second, .val (.int (1 : Int32)), .val (.ref b15), .unset] [])) _
        refine XS.iconst X21.here hx rfl (hb hby at_164) ?_
        show Steps p.tables e below (T21.setTop (mkF m 165 #[.val (.int px), .val (.long pw), .second, .val (.long pv), .second, .val (.int lw), .val (.int ii), .val (.int jj), .val (.int (512 : Int32)), .val (.ref b6), .val (.int z11), .val (.int cd), .val (.ref b15), .val (.long ((1 : Int64) <<< ((lw &&& (63 : Int32)).toInt64 &&& 63))), .second, .val (.int (1 : Int32)), .val (.ref b15), .unset] [(.int (1 : Int32))])) _
        refine XS.goto X21.here hx rfl (pc0 := 165) (pc' := 169) rfl (hb hby at_165) (by decide) (by decide) ?_
        show Steps p.tables e below (T21.setTop (mkF m 169 #[.val (.int px), .val (.long pw), .second, .val (.long pv), .second, .val (.int lw), .val (.int ii), .val (.int jj), .val (.int (512 : Int32)), .val (.ref b6), .val (.int z11), .val (.int cd), .val (.ref b15), .val (.long ((1 : Int64) <<< ((lw &&& (63 : Int32)).toInt64 &&& 63))), .second, .val (.int (1 : Int32)), .val (.ref b15), .unset] [(.int (1 : Int32))])) _
        refine XS.istore X21.here hx rfl (hb hby at_169) rfl (l' := #[.val (.int px), .val (.long pw), .second, .val (.long pv), .second, .val (.int lw), .val (.int ii), .val (.int jj), .val (.int (512 : Int32)), .val (.ref b6), .val (.int z11), .val (.int cd), .val (.ref b15), .val (.long ((1 : Int64) <<< ((lw &&& (63 : Int32)).toInt64 &&& 63))), .second, .val (.int (1 : Int32)), .val (.ref b15), .val (.int (1 : Int32))]) rfl ?_
        show Steps p.tables e below (T21.setTop (mkF m 171 #[.val (.int px), .val (.long pw), .second, .val (.long pv), .second, .val (.int lw), .val (.int ii), .val (.int jj), .val (.int (512 : Int32)), .val (.ref b6), .val (.int z11), .val (.int cd), .val (.ref b15), .val (.long ((1 : Int64) <<< ((lw &&& (63 : Int32)).toInt64 &&& 63))), .second, .val (.int (1 : Int32)), .val (.ref b15), .val (.int (1 : Int32))] [])) _
        refine XS.iload X21.here hx rfl (hb hby at_171) rfl ?_
        show Steps p.tables e below (T21.setTop (mkF m 173 #[.val (.int px), .val (.long pw), .second, .val (.long pv), .second, .val (.int lw), .val (.int ii), .val (.int jj), .val (.int (512 : Int32)), .val (.ref b6), .val (.int z11), .val (.int cd), .val (.ref b15), .val (.long ((1 : Int64) <<< ((lw &&& (63 : Int32)).toInt64 &&& 63))), .second, .val (.int (1 : Int32)), .val (.ref b15), .val (.int (1 : Int32))] [(.int (1 : Int32))])) _
        refine XS.ifNo X21.here hx rfl (hb hby at_173) rfl ((if0 _ _).trans (feq (by decide : ¬ ((1 : Int32) = (0 : Int32)))).1) ?_
        show Steps p.tables e below (T21.setTop (mkF m 176 #[.val (.int px), .val (.long pw), .second, .val (.long pv), .second, .val (.int lw), .val (.int ii), .val (.int jj), .val (.int (512 : Int32)), .val (.ref b6), .val (.int z11), .val (.int cd), .val (.ref b15), .val (.long ((1 : Int64) <<< ((lw &&& (63 : Int32)).toInt64 &&& 63))), .second, .val (.int (1 : Int32)), .val (.ref b15), .val (.int (1 : Int32))] [])) _
        refine XS.iload X21.here hx rfl (hb hby at_176) rfl ?_
        show Steps p.tables e below (T21.setTop (mkF m 178 #[.val (.int px), .val (.long pw), .second, .val (.long pv), .second, .val (.int lw), .val (.int ii), .val (.int jj), .val (.int (512 : Int32)), .val (.ref b6), .val (.int z11), .val (.int cd), .val (.ref b15), .val (.long ((1 : Int64) <<< ((lw &&& (63 : Int32)).toInt64 &&& 63))), .second, .val (.int (1 : Int32)), .val (.ref b15), .val (.int (1 : Int32))] [(.int (1 : Int32))])) _
        refine XS.ifNo X21.here hx rfl (hb hby at_178) rfl ((if0 _ _).trans (feq (by decide : ¬ ((1 : Int32) = (0 : Int32)))).1) ?_
        show Steps p.tables e below (T21.setTop (mkF m 181 #[.val (.int px), .val (.long pw), .second, .val (.long pv), .second, .val (.int lw), .val (.int ii), .val (.int jj), .val (.int (512 : Int32)), .val (.ref b6), .val (.int z11), .val (.int cd), .val (.ref b15), .val (.long ((1 : Int64) <<< ((lw &&& (63 : Int32)).toInt64 &&& 63))), .second, .val (.int (1 : Int32)), .val (.ref b15), .val (.int (1 : Int32))] [])) _
        refine XS.aload X21.here hx rfl (hb hby at_181) rfl rfl ?_
        show Steps p.tables e below (T21.setTop (mkF m 183 #[.val (.int px), .val (.long pw), .second, .val (.long pv), .second, .val (.int lw), .val (.int ii), .val (.int jj), .val (.int (512 : Int32)), .val (.ref b6), .val (.int z11), .val (.int cd), .val (.ref b15), .val (.long ((1 : Int64) <<< ((lw &&& (63 : Int32)).toInt64 &&& 63))), .second, .val (.int (1 : Int32)), .val (.ref b15), .val (.int (1 : Int32))] [(.ref b15)])) _
        refine XS.aload X21.here hx rfl (hb hby at_183) rfl rfl ?_
        show Steps p.tables e below (T21.setTop (mkF m 185 #[.val (.int px), .val (.long pw), .second, .val (.long pv), .second, .val (.int lw), .val (.int ii), .val (.int jj), .val (.int (512 : Int32)), .val (.ref b6), .val (.int z11), .val (.int cd), .val (.ref b15), .val (.long ((1 : Int64) <<< ((lw &&& (63 : Int32)).toInt64 &&& 63))), .second, .val (.int (1 : Int32)), .val (.ref b15), .val (.int (1 : Int32))] [(.ref b15), (.ref b15)])) _
        refine Jvm.RoadKit.acmp (g := (mkF m 185 #[.val (.int px), .val (.long pw), .second, .val (.long pv), .second, .val (.int lw), .val (.int ii), .val (.int jj), .val (.int (512 : Int32)), .val (.ref b6), .val (.int z11), .val (.int cd), .val (.ref b15), .val (.long ((1 : Int64) <<< ((lw &&& (63 : Int32)).toInt64 &&& 63))), .second, .val (.int (1 : Int32)), .val (.ref b15), .val (.int (1 : Int32))] [(.ref b15), (.ref b15)])) X21 hx rfl rfl rfl (pc0 := 185) (pc' := 188) (same := true) rfl (hb hby at_185) rfl (decide_eq_true rfl) (by decide) (by decide) ?_
        show Steps p.tables e below (T21.setTop (mkF m 188 #[.val (.int px), .val (.long pw), .second, .val (.long pv), .second, .val (.int lw), .val (.int ii), .val (.int jj), .val (.int (512 : Int32)), .val (.ref b6), .val (.int z11), .val (.int cd), .val (.ref b15), .val (.long ((1 : Int64) <<< ((lw &&& (63 : Int32)).toInt64 &&& 63))), .second, .val (.int (1 : Int32)), .val (.ref b15), .val (.int (1 : Int32))] [])) _
        refine XS.aload X21.here hx rfl (hb hby at_188) rfl rfl ?_
        show Steps p.tables e below (T21.setTop (mkF m 190 #[.val (.int px), .val (.long pw), .second, .val (.long pv), .second, .val (.int lw), .val (.int ii), .val (.int jj), .val (.int (512 : Int32)), .val (.ref b6), .val (.int z11), .val (.int cd), .val (.ref b15), .val (.long ((1 : Int64) <<< ((lw &&& (63 : Int32)).toInt64 &&& 63))), .second, .val (.int (1 : Int32)), .val (.ref b15), .val (.int (1 : Int32))] [(.ref b15)])) _
        refine XS.iload X21.here hx rfl (hb hby at_190) rfl ?_
        show Steps p.tables e below (T21.setTop (mkF m 192 #[.val (.int px), .val (.long pw), .second, .val (.long pv), .second, .val (.int lw), .val (.int ii), .val (.int jj), .val (.int (512 : Int32)), .val (.ref b6), .val (.int z11), .val (.int cd), .val (.ref b15), .val (.long ((1 : Int64) <<< ((lw &&& (63 : Int32)).toInt64 &&& 63))), .second, .val (.int (1 : Int32)), .val (.ref b15), .val (.int (1 : Int32))] [(.int ii), (.ref b15)])) _
        refine st22.trans ?_
        show Steps p.tables e below (T22.setTop (mkF m 195 #[.val (.int px), .val (.long pw), .second, .val (.long pv), .second, .val (.int lw), .val (.int ii), .val (.int jj), .val (.int (512 : Int32)), .val (.ref b6), .val (.int z11), .val (.int cd), .val (.ref b15), .val (.long ((1 : Int64) <<< ((lw &&& (63 : Int32)).toInt64 &&& 63))), .second, .val (.int (1 : Int32)), .val (.ref b15), .val (.int (1 : Int32))] [(.long (pw ||| ((1 : Int64) <<< (lw.toInt64 &&& 63))))])) _
        refine XS.lloadN X22.here hx rfl (hb hby at_195) rfl ?_
        show Steps p.tables e below (T22.setTop (mkF m 196 #[.val (.int px), .val (.long pw), .second, .val (.long pv), .second, .val (.int lw), .val (.int ii), .val (.int jj), .val (.int (512 : Int32)), .val (.ref b6), .val (.int z11), .val (.int cd), .val (.ref b15), .val (.long ((1 : Int64) <<< ((lw &&& (63 : Int32)).toInt64 &&& 63))), .second, .val (.int (1 : Int32)), .val (.ref b15), .val (.int (1 : Int32))] [(.long pw), (.long (pw ||| ((1 : Int64) <<< (lw.toInt64 &&& 63))))])) _
        refine XS.lload X22.here hx rfl (hb hby at_196) rfl ?_
        show Steps p.tables e below (T22.setTop (mkF m 198 #[.val (.int px), .val (.long pw), .second, .val (.long pv), .second, .val (.int lw), .val (.int ii), .val (.int jj), .val (.int (512 : Int32)), .val (.ref b6), .val (.int z11), .val (.int cd), .val (.ref b15), .val (.long ((1 : Int64) <<< ((lw &&& (63 : Int32)).toInt64 &&& 63))), .second, .val (.int (1 : Int32)), .val (.ref b15), .val (.int (1 : Int32))] [(.long ((1 : Int64) <<< ((lw &&& (63 : Int32)).toInt64 &&& 63))), (.long pw), (.long (pw ||| ((1 : Int64) <<< (lw.toInt64 &&& 63))))])) _
        refine XS.ladd X22.here hx rfl (hb hby at_198) rfl ?_
        show Steps p.tables e below (T22.setTop (mkF m 199 #[.val (.int px), .val (.long pw), .second, .val (.long pv), .second, .val (.int lw), .val (.int ii), .val (.int jj), .val (.int (512 : Int32)), .val (.ref b6), .val (.int z11), .val (.int cd), .val (.ref b15), .val (.long ((1 : Int64) <<< ((lw &&& (63 : Int32)).toInt64 &&& 63))), .second, .val (.int (1 : Int32)), .val (.ref b15), .val (.int (1 : Int32))] [(.long (pw + ((1 : Int64) <<< ((lw &&& (63 : Int32)).toInt64 &&& 63)))), (.long (pw ||| ((1 : Int64) <<< (lw.toInt64 &&& 63))))])) _
        refine XS.lcmp X22.here hx rfl (hb hby at_199) rfl ?_
        show Steps p.tables e below (T22.setTop (mkF m 200 #[.val (.int px), .val (.long pw), .second, .val (.long pv), .second, .val (.int lw), .val (.int ii), .val (.int jj), .val (.int (512 : Int32)), .val (.ref b6), .val (.int z11), .val (.int cd), .val (.ref b15), .val (.long ((1 : Int64) <<< ((lw &&& (63 : Int32)).toInt64 &&& 63))), .second, .val (.int (1 : Int32)), .val (.ref b15), .val (.int (1 : Int32))] [(.int (lcmpW (pw ||| ((1 : Int64) <<< (lw.toInt64 &&& 63))) (pw + ((1 : Int64) <<< ((lw &&& (63 : Int32)).toInt64 &&& 63)))))])) _
        refine XS.ifNo X22.here hx rfl (hb hby at_200) rfl ((if0 _ _).trans (teq ((lw_eq _ _).mpr (by rw [own_bit63 lw]; exact hab.2) : (lcmpW (pw ||| ((1 : Int64) <<< (lw.toInt64 &&& 63))) (pw + ((1 : Int64) <<< ((lw &&& (63 : Int32)).toInt64 &&& 63)))) = (0 : Int32))).2) ?_
        show Steps p.tables e below (T22.setTop (mkF m 203 #[.val (.int px), .val (.long pw), .second, .val (.long pv), .second, .val (.int lw), .val (.int ii), .val (.int jj), .val (.int (512 : Int32)), .val (.ref b6), .val (.int z11), .val (.int cd), .val (.ref b15), .val (.long ((1 : Int64) <<< ((lw &&& (63 : Int32)).toInt64 &&& 63))), .second, .val (.int (1 : Int32)), .val (.ref b15), .val (.int (1 : Int32))] [])) _
        refine XS.aload X22.here hx rfl (hb hby at_203) rfl rfl ?_
        show Steps p.tables e below (T22.setTop (mkF m 205 #[.val (.int px), .val (.long pw), .second, .val (.long pv), .second, .val (.int lw), .val (.int ii), .val (.int jj), .val (.int (512 : Int32)), .val (.ref b6), .val (.int z11), .val (.int cd), .val (.ref b15), .val (.long ((1 : Int64) <<< ((lw &&& (63 : Int32)).toInt64 &&& 63))), .second, .val (.int (1 : Int32)), .val (.ref b15), .val (.int (1 : Int32))] [(.ref b15)])) _
        refine st23.trans ?_
        show Steps p.tables e below (T23.setTop (mkF m 208 #[.val (.int px), .val (.long pw), .second, .val (.long pv), .second, .val (.int lw), .val (.int ii), .val (.int jj), .val (.int (512 : Int32)), .val (.ref b6), .val (.int z11), .val (.int cd), .val (.ref b15), .val (.long ((1 : Int64) <<< ((lw &&& (63 : Int32)).toInt64 &&& 63))), .second, .val (.int (1 : Int32)), .val (.ref b15), .val (.int (1 : Int32))] [(.int (cd + (1 : Int32)))])) _
        refine XS.iload X23.here hx rfl (hb hby at_208) rfl ?_
        show Steps p.tables e below (T23.setTop (mkF m 210 #[.val (.int px), .val (.long pw), .second, .val (.long pv), .second, .val (.int lw), .val (.int ii), .val (.int jj), .val (.int (512 : Int32)), .val (.ref b6), .val (.int z11), .val (.int cd), .val (.ref b15), .val (.long ((1 : Int64) <<< ((lw &&& (63 : Int32)).toInt64 &&& 63))), .second, .val (.int (1 : Int32)), .val (.ref b15), .val (.int (1 : Int32))] [(.int cd), (.int (cd + (1 : Int32)))])) _
        refine XS.iconst X23.here hx rfl (hb hby at_210) ?_
        show Steps p.tables e below (T23.setTop (mkF m 211 #[.val (.int px), .val (.long pw), .second, .val (.long pv), .second, .val (.int lw), .val (.int ii), .val (.int jj), .val (.int (512 : Int32)), .val (.ref b6), .val (.int z11), .val (.int cd), .val (.ref b15), .val (.long ((1 : Int64) <<< ((lw &&& (63 : Int32)).toInt64 &&& 63))), .second, .val (.int (1 : Int32)), .val (.ref b15), .val (.int (1 : Int32))] [(.int (1 : Int32)), (.int cd), (.int (cd + (1 : Int32)))])) _
        refine XS.iadd X23.here hx rfl (hb hby at_211) rfl ?_
        show Steps p.tables e below (T23.setTop (mkF m 212 #[.val (.int px), .val (.long pw), .second, .val (.long pv), .second, .val (.int lw), .val (.int ii), .val (.int jj), .val (.int (512 : Int32)), .val (.ref b6), .val (.int z11), .val (.int cd), .val (.ref b15), .val (.long ((1 : Int64) <<< ((lw &&& (63 : Int32)).toInt64 &&& 63))), .second, .val (.int (1 : Int32)), .val (.ref b15), .val (.int (1 : Int32))] [(.int (cd + (1 : Int32))), (.int (cd + (1 : Int32)))])) _
        refine XS.icmpNo X23.here hx rfl (hb hby at_212) rfl (teq (rfl : (cd + (1 : Int32)) = (cd + (1 : Int32)))).2 ?_
        show Steps p.tables e below (T23.setTop (mkF m 215 #[.val (.int px), .val (.long pw), .second, .val (.long pv), .second, .val (.int lw), .val (.int ii), .val (.int jj), .val (.int (512 : Int32)), .val (.ref b6), .val (.int z11), .val (.int cd), .val (.ref b15), .val (.long ((1 : Int64) <<< ((lw &&& (63 : Int32)).toInt64 &&& 63))), .second, .val (.int (1 : Int32)), .val (.ref b15), .val (.int (1 : Int32))] [])) _
        refine XS.iconst X23.here hx rfl (hb hby at_215) ?_
        show Steps p.tables e below (T23.setTop (mkF m 216 #[.val (.int px), .val (.long pw), .second, .val (.long pv), .second, .val (.int lw), .val (.int ii), .val (.int jj), .val (.int (512 : Int32)), .val (.ref b6), .val (.int z11), .val (.int cd), .val (.ref b15), .val (.long ((1 : Int64) <<< ((lw &&& (63 : Int32)).toInt64 &&& 63))), .second, .val (.int (1 : Int32)), .val (.ref b15), .val (.int (1 : Int32))] [(.int (1 : Int32))])) _
        refine XS.goto X23.here hx rfl (pc0 := 216) (pc' := 220) rfl (hb hby at_216) (by decide) (by decide) ?_
        show Steps p.tables e below (T23.setTop (mkF m 220 #[.val (.int px), .val (.long pw), .second, .val (.long pv), .second, .val (.int lw), .val (.int ii), .val (.int jj), .val (.int (512 : Int32)), .val (.ref b6), .val (.int z11), .val (.int cd), .val (.ref b15), .val (.long ((1 : Int64) <<< ((lw &&& (63 : Int32)).toInt64 &&& 63))), .second, .val (.int (1 : Int32)), .val (.ref b15), .val (.int (1 : Int32))] [(.int (1 : Int32))])) _
        refine XS.istore X23.here hx rfl (hb hby at_220) rfl (l' := #[.val (.int px), .val (.long pw), .second, .val (.long pv), .second, .val (.int lw), .val (.int ii), .val (.int jj), .val (.int (512 : Int32)), .val (.ref b6), .val (.int z11), .val (.int cd), .val (.ref b15), .val (.long ((1 : Int64) <<< ((lw &&& (63 : Int32)).toInt64 &&& 63))), .second, .val (.int (1 : Int32)), .val (.ref b15), .val (.int (1 : Int32))]) rfl ?_
        show Steps p.tables e below (T23.setTop (mkF m 222 #[.val (.int px), .val (.long pw), .second, .val (.long pv), .second, .val (.int lw), .val (.int ii), .val (.int jj), .val (.int (512 : Int32)), .val (.ref b6), .val (.int z11), .val (.int cd), .val (.ref b15), .val (.long ((1 : Int64) <<< ((lw &&& (63 : Int32)).toInt64 &&& 63))), .second, .val (.int (1 : Int32)), .val (.ref b15), .val (.int (1 : Int32))] [])) _
        refine XS.goto X23.here hx rfl (pc0 := 222) (pc' := 264) rfl (hb hby at_222) (by decide) (by decide) ?_
        show Steps p.tables e below (T23.setTop (mkF m 264 #[.val (.int px), .val (.long pw), .second, .val (.long pv), .second, .val (.int lw), .val (.int ii), .val (.int jj), .val (.int (512 : Int32)), .val (.ref b6), .val (.int z11), .val (.int cd), .val (.ref b15), .val (.long ((1 : Int64) <<< ((lw &&& (63 : Int32)).toInt64 &&& 63))), .second, .val (.int (1 : Int32)), .val (.ref b15), .val (.int (1 : Int32))] [])) _
        refine XS.iload X23.here hx rfl (hb hby at_264) rfl ?_
        show Steps p.tables e below (T23.setTop (mkF m 266 #[.val (.int px), .val (.long pw), .second, .val (.long pv), .second, .val (.int lw), .val (.int ii), .val (.int jj), .val (.int (512 : Int32)), .val (.ref b6), .val (.int z11), .val (.int cd), .val (.ref b15), .val (.long ((1 : Int64) <<< ((lw &&& (63 : Int32)).toInt64 &&& 63))), .second, .val (.int (1 : Int32)), .val (.ref b15), .val (.int (1 : Int32))] [(.int (1 : Int32))])) _
        exact retN X23 hx (t := .boolean) Bd.returns (by simp) (hb hby at_266) hr
      · show Q0 Z px pw pv h0 n0 _ T23.heap _
        rw [e23]
        exact ⟨rfl, N23⟩
    · have hbw := own_bits pw _ _ ((1 : Int64) <<< (lw.toInt64 &&& 63)) (own_klt lw) (own_k64 lw) (own_k32 lw) rfl
      have hfw : f11 ((lw.toUInt32 >>> ((6 : Int32) &&& 31).toUInt32).toInt32).toNatClampNeg = pw := by rw [← h_ii]; exact hwi
      have hab := hbw.2.1 (fun q => hc123_18 ((lw_eq _ _).mpr q))
      have hni := hwi
      have hnj := hvj
      obtain ⟨cq25, kq25, q25a, q25b, q25c⟩ := isOf hZ rfl A16c
      obtain ⟨_, _, ⟨T25, L25, k25, n25⟩, -, X25, ⟨Lc25, hQ25, l25, y25, z25⟩, st25⟩ := X16.virtualBack hx (y := (⟨"com/example/bitgrove/bitgrove/HeapBitmapContainer", "add", "(I)Lcom/example/bitgrove/bitgrove/Container;"⟩ : MethodName)) (z := (⟨"com/example/bitgrove/bitgrove/HeapBitmapContainer", "add", "(I)Lcom/example/bitgrove/bitgrove/Container;"⟩ : MethodName)) hown (mvT hZ (hw _ (List.mem_of_getElem? (i := 47) rfl))) (mvT hZ (hw _ (List.mem_of_getElem? (i := 48) rfl))) (notFace_of_selects (args := #[]) (mvT hZ (hw _ (List.mem_of_getElem? (i := 50) rfl)))) (mvT hZ (hw _ (List.mem_of_getElem? (i := 50) rfl))) (mvT hZ (hw _ (List.mem_of_getElem? (i := 49) rfl))) (by decide) (backOf (W := 0) (rm9n l Z a0 hw [] b15 lw b6 f11 cd T16.heap n0 (Nat.le_trans Z0 Kc16.1) A16c Fc0_16 Fc1_16 ((V11.ext E15).keep K16 (ninS ne_b6_b15 nin0)) g_b15 g_b6 (Ne.symm ne_b6_b15) (h_ii ▸ ri0) (h_ii ▸ ri1) (by rw [hfw, lw_eq]; exact hab.1)) hZ (hw _ (List.mem_of_getElem? (i := 51) rfl)) (hw _ (List.mem_of_getElem? (i := 27) rfl)) (by decide) (by decide)) q25a q25c (g := (mkF m 137 #[.val (.int px), .val (.long pw), .second, .val (.long pv), .second, .val (.int lw), .val (.int ii), .val (.int jj), .val (.int (512 : Int32)), .val (.ref b6), .val (.int z11), .val (.int cd), .val (.ref b15), .val (.long ((1 : Int64) <<< ((lw &&& (63 : Int32)).toInt64 &&& 63))), .second, .val (.int (0 : Int32)), .unset, .unset] [(.int lw), (.ref b15)])) rfl (by rw [hml]; rfl) (Steps.refl _) (argsL := [(.int lw)]) (rest := []) (lenOf pd_6 rfl) rfl (by show 2 * 0 + _ ≤ _; exact Nat.le_of_eq rfl) (hb hby at_137) (fun _ _ => ⟨rfl, rfl, (by decide : 2 + 0 ≤ _), (by decide : 1026 + 0 ≤ _)⟩)
      dsimp only [Pt.U, Pt.locs, Pt.cells, Pt.slots] at X25 l25 y25 z25 st25 hQ25
      subst l25 y25 z25
      obtain ⟨rfl, N25q, e25⟩ := hQ25
      have N25 := Fr.app N16 N25q
      obtain ⟨cq26, kq26, q26a, q26b, q26c⟩ := isOf hZ e25 A16c
      obtain ⟨_, _, ⟨T26, L26, k26, n26⟩, -, X26, ⟨Lc26, hQ26, l26, y26, z26⟩, st26⟩ := X25.virtualBack hx (y := (⟨"com/example/bitgrove/bitgrove/HeapBitmapContainer", "word", "(I)J"⟩ : MethodName)) (z := (⟨"com/example/bitgrove/bitgrove/HeapBitmapContainer", "word", "(I)J"⟩ : MethodName)) hown (mvT hZ (hw _ (List.mem_of_getElem? (i := 52) rfl))) (mvT hZ (hw _ (List.mem_of_getElem? (i := 53) rfl))) (notFace_of_selects (args := #[]) (mvT hZ (hw _ (List.mem_of_getElem? (i := 55) rfl)))) (mvT hZ (hw _ (List.mem_of_getElem? (i := 55) rfl))) (mvT hZ (hw _ (List.mem_of_getElem? (i := 54) rfl))) (by decide) (backOf (W := 0) (rm10 l Z a0 hw [] b15 jj b6 f11 T16.heap n0 (Nat.le_trans Z0 Kc16.1) Fc0_16 ((V11.ext E15).keep K16 (ninS ne_b6_b15 nin0)) rj0 rj1) hZ (hw _ (List.mem_of_getElem? (i := 56) rfl)) (hw _ (List.mem_of_getElem? (i := 27) rfl)) (by decide) (by decide)) q26a q26c (g := (mkF m 146 #[.val (.int px), .val (.long pw), .second, .val (.long pv), .second, .val (.int lw), .val (.int ii), .val (.int jj), .val (.int (512 : Int32)), .val (.ref b6), .val (.int z11), .val (.int cd), .val (.ref b15), .val (.long ((1 : Int64) <<< ((lw &&& (63 : Int32)).toInt64 &&& 63))), .second, .val (.int (0 : Int32)), .val .null, .unset] [(.int jj), (.ref b15)])) rfl (by rw [hml]; rfl) (Steps.refl _) (argsL := [(.int jj)]) (rest := []) (lenOf pd_3 rfl) rfl (by show 2 * 0 + _ ≤ _; exact Nat.le_of_eq rfl) (hb hby at_146) (fun _ _ => ⟨rfl, e25, (by decide : 2 + 0 ≤ _), (by decide : 1026 + 0 ≤ _)⟩)
      dsimp only [Pt.U, Pt.locs, Pt.cells, Pt.slots] at X26 l26 y26 z26 st26 hQ26
      subst l26 y26 z26
      obtain ⟨rfl, N26q, e26⟩ := hQ26
      have N26 := Fr.app N25 N26q
      rw [hnj] at st26
      obtain ⟨cq27, kq27, q27a, q27b, q27c⟩ := isOf hZ e26 A16c
      obtain ⟨_, _, ⟨T27, L27, k27, n27⟩, -, X27, ⟨Lc27, hQ27, l27, y27, z27⟩, st27⟩ := X26.virtualBackUp hx (x := (⟨"com/example/bitgrove/bitgrove/HeapBitmapContainer", "contains", "(I)Z"⟩ : MethodName)) (y := (⟨"com/example/bitgrove/bitgrove/BitmapContainer", "contains", "(I)Z"⟩ : MethodName)) hown (mvT hZ (hw _ (List.mem_of_getElem? (i := 57) rfl))) (mvT hZ (hw _ (List.mem_of_getElem? (i := 58) rfl))) (mvT hZ (hw _ (List.mem_of_getElem? (i := 59) rfl))) (by decide) (mvT hZ (hw _ (List.mem_of_getElem? (i := 61) rfl))) (mvT hZ (hw _ (List.mem_of_getElem? (i := 60) rfl))) (backOf (W := 0) (rm11 l Z a0 hw [] b15 lw b6 f11 T16.heap n0 (Nat.le_trans Z0 Kc16.1) A16c Fc0_16 ((V11.ext E15).keep K16 (ninS ne_b6_b15 nin0)) (h_ii ▸ ri0) (h_ii ▸ ri1)) hZ (hw _ (List.mem_of_getElem? (i := 62) rfl)) (hw _ (List.mem_of_getElem? (i := 4) rfl)) (by decide) (by decide)) q27a q27c (g := (mkF m 158 #[.val (.int px), .val (.long pw), .second, .val (.long pv), .second, .val (.int lw), .val (.int ii), .val (.int jj), .val (.int (512 : Int32)), .val (.ref b6), .val (.int z11), .val (.int cd), .val (.ref b15), .val (.long ((1 : Int64) <<< ((lw &&& (63 : Int32)).toInt64 &&& 63))), .second, .val (.int (0 : Int32)), .val .null, .unset] [(.int lw), (.ref b15)])) rfl (by rw [hml]; rfl) (Steps.refl _) (argsL := [(.int lw)]) (rest := []) (lenOf pd_7 rfl) rfl (by show 2 * 0 + _ ≤ _; exact Nat.le_of_eq rfl) (hb hby at_158) (fun _ _ => ⟨rfl, e26, (by decide : 2 + 0 ≤ _), (by decide : 1026 + 0 ≤ _)⟩)
      dsimp only [Pt.U, Pt.locs, Pt.cells, Pt.slots] at X27 l27 y27 z27 st27 hQ27
      subst l27 y27 z27
      obtain ⟨rfl, N27q, e27⟩ := hQ27
      have N27 := Fr.app N26 N27q
      obtain ⟨cq28, kq28, q28a, q28b, q28c⟩ := isOf hZ e27 A16c
      obtain ⟨_, _, ⟨T28, L28, k28, n28⟩, -, X28, ⟨Lc28, hQ28, l28, y28, z28⟩, st28⟩ := X27.virtualBack hx (y := (⟨"com/example/bitgrove/bitgrove/HeapBitmapContainer", "word", "(I)J"⟩ : MethodName)) (z := (⟨"com/example/bitgrove/bitgrove/HeapBitmapContainer", "word", "(I)J"⟩ : MethodName)) hown (mvT hZ (hw _ (List.mem_of_getElem? (i := 52) rfl))) (mvT hZ (hw _ (List.mem_of_getElem? (i := 53) rfl))) (notFace_of_selects (args := #[]) (mvT hZ (hw _ (List.mem_of_getElem? (i := 55) rfl)))) (mvT hZ (hw _ (List.mem_of_getElem? (i := 55) rfl))) (mvT hZ (hw _ (List.mem_of_getElem? (i := 54) rfl))) (by decide) (backOf (W := 0) (rm10 l Z a0 hw [] b15 ii b6 f11 T16.heap n0 (Nat.le_trans Z0 Kc16.1) Fc0_16 ((V11.ext E15).keep K16 (ninS ne_b6_b15 nin0)) ri0 ri1) hZ (hw _ (List.mem_of_getElem? (i := 56) rfl)) (hw _ (List.mem_of_getElem? (i := 27) rfl)) (by decide) (by decide)) q28a q28c (g := (mkF m 239 #[.val (.int px), .val (.long pw), .second, .val (.long pv), .second, .val (.int lw), .val (.int ii), .val (.int jj), .val (.int (512 : Int32)), .val (.ref b6), .val (.int z11), .val (.int cd), .val (.ref b15), .val (.long ((1 : Int64) <<< ((lw &&& (63 : Int32)).toInt64 &&& 63))), .second, .val (.int (0 : Int32)), .val .null, .val (.int (1 : Int32))] [(.int ii), (.ref b15)])) rfl (by rw [hml]; rfl) (Steps.refl _) (argsL := [(.int ii)]) (rest := []) (lenOf pd_3 rfl) rfl (by show 2 * 0 + _ ≤ _; exact Nat.le_of_eq rfl) (hb hby at_239) (fun _ _ => ⟨rfl, e27, (by decide : 2 + 0 ≤ _), (by decide : 1026 + 0 ≤ _)⟩)
      dsimp only [Pt.U, Pt.locs, Pt.cells, Pt.slots] at X28 l28 y28 z28 st28 hQ28
      subst l28 y28 z28
      obtain ⟨rfl, N28q, e28⟩ := hQ28
      have N28 := Fr.app N27 N28q
      rw [hni] at st28
      obtain ⟨cq29, kq29, q29a, q29b, q29c⟩ := isOf hZ e28 A16c
      obtain ⟨_, _, ⟨T29, L29, k29, n29⟩, -, X29, ⟨Lc29, hQ29, l29, y29, z29⟩, st29⟩ := X28.virtualBack hx (y := (⟨"com/example/bitgrove/bitgrove/HeapBitmapContainer", "cardinality", "()I"⟩ : MethodName)) (z := (⟨"com/example/bitgrove/bitgrove/HeapBitmapContainer", "cardinality", "()I"⟩ : MethodName)) hown (mvT hZ (hw _ (List.mem_of_getElem? (i := 66) rfl))) (mvT hZ (hw _ (List.mem_of_getElem? (i := 67) rfl))) (notFace_of_selects (args := #[]) (mvT hZ (hw _ (List.mem_of_getElem? (i := 69) rfl)))) (mvT hZ (hw _ (List.mem_of_getElem? (i := 69) rfl))) (mvT hZ (hw _ (List.mem_of_getElem? (i := 68) rfl))) (by decide) (backOf (W := 0) (rm12 l Z a0 hw [] b15 cd T16.heap n0 (Nat.le_trans Z0 Kc16.1) Fc1_16) hZ (hw _ (List.mem_of_getElem? (i := 70) rfl)) (hw _ (List.mem_of_getElem? (i := 27) rfl)) (by decide) (by decide)) q29a q29c (g := (mkF m 249 #[.val (.int px), .val (.long pw), .second, .val (.long pv), .second, .val (.int lw), .val (.int ii), .val (.int jj), .val (.int (512 : Int32)), .val (.ref b6), .val (.int z11), .val (.int cd), .val (.ref b15), .val (.long ((1 : Int64) <<< ((lw &&& (63 : Int32)).toInt64 &&& 63))), .second, .val (.int (0 : Int32)), .val .null, .val (.int (1 : Int32))] [(.ref b15)])) rfl (by rw [hml]; rfl) (Steps.refl _) (argsL := []) (rest := []) (lenOf pd_8 rfl) rfl (by show 2 * 0 + _ ≤ _; exact Nat.le_of_eq rfl) (hb hby at_249) (fun _ _ => ⟨rfl, e28, (by decide : 2 + 0 ≤ _), (by decide : 1026 + 0 ≤ _)⟩)
      dsimp only [Pt.U, Pt.locs, Pt.cells, Pt.slots] at X29 l29 y29 z29 st29 hQ29
      subst l29 y29 z29
      obtain ⟨rfl, N29q, e29⟩ := hQ29
      have N29 := Fr.app N28 N29q
      obtain ⟨fs, hr, hrun, hended, hW, hsame⟩ := X29.leave (v := some (.int (1 : Int32))) (fun h => by rw [Bd.returns] at h; cases h)
      refine ⟨_, _, pre17 _ ?_, hrun, hended, _, _, rfl, ?_, ⟨_, rfl⟩, hW, hsame.mono (by decide) (by decide)⟩
      · show Steps p.tables e below (T16.setTop (mkF m 123 #[.val (.int px), .val (.long pw), .second, .val (.long pv), .second, .val (.int lw), .val (.int ii), .val (.int jj), .val (.int (512 : Int32)), .val (.ref b6), .val (.int z11), .val (.int cd), .val (.ref b15), .val (.long ((1 : Int64) <<< ((lw &&& (63 : Int32)).toInt64 &&& 63))), .second, .unset, .unset, .unset] [(.int (lcmpW ((XT.ushrL pw (lw &&& (63 : Int32))) &&& (1 : Int64)) (0 : Int64)))])) _
        refine XS.ifYes X16.here hx rfl (pc0 := 123) (pc' := 130) rfl (hb hby at_123) rfl ((if0 _ _).trans (feq hc123_18).2) (by decide) (by decide) ?_
        show Steps p.tables e below (T16.setTop (mkF m 130 #[.val (.int px), .val (.long pw), .second, .val (.long pv), .second, .val (.int lw), .val (.int ii), .val (.int jj), .val (.int (512 : Int32)), .val (.ref b6), .val (.int z11), .val (.int cd), .val (.ref b15), .val (.long ((1 : Int64) <<< ((lw &&& (63 : Int32)).toInt64 &&& 63))), .second, .unset, .unset, .unset] [])) _
        refine XS.iconst X16.here hx rfl (hb hby at_130) ?_
        show Steps p.tables e below (T16.setTop (mkF m 131 #[.val (.int px), .val (.long pw), .second, .val (.long pv), .second, .val (.int lw), .val (.int ii), .val (.int jj), .val (.int (512 : Int32)), .val (.ref b6), .val (.int z11), .val (.int cd), .val (.ref b15), .val (.long ((1 : Int64) <<< ((lw &&& (63 : Int32)).toInt64 &&& 63))), .second, .unset, .unset, .unset] [(.int (0 : Int32))])) _
        refine XS.istore X16.here hx rfl (hb hby at_131) rfl (l' := #[.val (.int px), .val (.long pw), .second, .val (.long pv), .second, .val (.int lw), .val (.int ii), .val (.int jj), .val (.int (512 : Int32)), .val (.ref b6), .val (.int z11), .val (.int cd), .val (.ref b15), .val (.long ((1 : Int64) <<< ((lw &&& (63 : Int32)).toInt64 &&& 63))), .second, .val (.int (0 : Int32)), .unset, .unset]) rfl ?_
        show Steps p.tables e below (T16.setTop (mkF m 133 #[.val (.int px), .val (.long pw), .second, .val (.long pv), .second, .val (.int lw), .val (.int ii), .val (.int jj), .val (.int (512 : Int32)), .val (.ref b6), .val (.int z11), .val (.int cd), .val (.ref b15), .val (.long ((1 : Int64) <<< ((lw &&& (63 : Int32)).toInt64 &&& 63))), .second, .val (.int (0 : Int32)), .unset, .unset] [])) _
        refine XS.aload X16.here hx rfl (hb hby at_133) rfl rfl ?_
        show Steps p.tables e below (T16.setTop (mkF m 135 #[.val (.int px), .val (.long pw), .second, .val (.long pv), .second, .val (.int lw), .val (.int ii), .val (.int jj), .val (.int (512 : Int32)), .val (.ref b6), .val (.int z11), .val (.int cd), .val (.ref b15), .val (.long ((1 : Int64) <<< ((lw &&& (63 : Int32)).toInt64 &&& 63))), .second, .val (.int (0 : Int32)), .unset, .unset] [(.ref b15)])) _
        refine XS.iload X16.here hx rfl (hb hby at_135) rfl ?_
        show Steps p.tables e below (T16.setTop (mkF m 137 #[.val (.int px), .val (.long pw), .second, .val (.long pv), .second, .val (.int lw), .val (.int ii), .val (.int jj), .val (.int (512 : Int32)), .val (.ref b6), .val (.int z11), .val (.int cd), .val (.ref b15), .val (.long ((1 : Int64) <<< ((lw &&& (63 : Int32)).toInt64 &&& 63))), .second, .val (.int (0 : Int32)), .unset, .unset] [(.int lw), (.ref b15)])) _
        refine st25.trans ?_
        show Steps p.tables e below (T25.setTop (mkF m 140 #[.val (.int px), .val (.long pw), .second, .val (.long pv), .second, .val (.int lw), .val (.int ii), .val (.int jj), .val (.int (512 : Int32)), .val (.ref b6), .val (.int z11), .val (.int cd), .val (.ref b15), .val (.long ((1 : Int64) <<< ((lw &&& (63 : Int32)).toInt64 &&& 63))), .second, .val (.int (0 : Int32)), .unset, .unset] [.null])) _
        refine XS.astore X25.here hx rfl (hb hby at_140) rfl rfl (l' := #[.val (.int px), .val (.long pw), .second, .val (.long pv), .second, .val (.int lw), .val (.int ii), .val (.int jj), .val (.int (512 : Int32)), .val (.ref b6), .val (.int z11), .val (.int cd), .val (.ref b15), .val (.long ((1 : Int64) <<< ((lw &&& (63 : Int32)).toInt64 &&& 63))), .second, .val (.int (0 : Int32)), .val .null, .unset]) rfl ?_
        show Steps p.tables e below (T25.setTop (mkF m 142 #[.val (.int px), .val (.long pw), .second, .val (.long pv), .second, .val (.int lw), .val (.int ii), .val (.int jj), .val (.int (512 : Int32)), .val (.ref b6), .val (.int z11), .val (.int cd), .val (.ref b15), .val (.long ((1 : Int64) <<< ((lw &&& (63 : Int32)).toInt64 &&& 63))), .second, .val (.int (0 : Int32)), .val .null, .unset] [])) _
        refine XS.aload X25.here hx rfl (hb hby at_142) rfl rfl ?_
        show Steps p.tables e below (T25.setTop (mkF m 144 #[.val (.int px), .val (.long pw), .second, .val (.long pv), .second, .val (.int lw), .val (.int ii), .val (.int jj), .val (.int (512 : Int32)), .val (.ref b6), .val (.int z11), .val (.int cd), .val (.ref b15), .val (.long ((1 : Int64) <<< ((lw &&& (63 : Int32)).toInt64 &&& 63))), .second, .val (.int (0 : Int32)), .val .null, .unset] [(.ref b15)])) _
        refine XS.iload X25.here hx rfl (hb hby at_144) rfl ?_
        show Steps p.tables e below (T25.setTop (mkF m 146 #[.val (.int px), .val (.long pw), .second, .val (.long pv), .second, .val (.int lw), .val (.int ii), .val (.int jj), .val (.int (512 : Int32)), .val (.ref b6), .val (.int z11), .val (.int cd), .val (.ref b15), .val (.long ((1 : Int64) <<< ((lw &&& (63 : Int32)).toInt64 &&& 63))), .second, .val (.int (0 : Int32)), .val .null, .unset] [(.int jj), (.ref b15)])) _
        refine st26.trans ?_
        show Steps p.tables e below (T26.setTop (mkF m 149 #[.val (.int px), .val (.long pw), .second, .val (.long pv), .second, .val (.int lw), .val (.int ii), .val (.int jj), .val (.int (512 : Int32)), .val (.ref b6), .val (.int z11), .val (.int cd), .val (.ref b15), .val (.long ((1 : Int64) <<< ((lw &&& (63 : Int32)).toInt64 &&& 63))), .second, .val (.int (0 : Int32)), .val .null, .unset] [(.long pv)])) _
        refine XS.lloadN X26.here hx rfl (hb hby at_149) rfl ?_
        show Steps p.tables e below (T26.setTop (mkF m 150 #[.val (.int px), .val (.long pw), .second, .val (.long pv), .second, .val (.int lw), .val (.int ii), .val (.int jj), .val (.int (512 : Int32)), .val (.ref b6), .val (.int z11), .val (.int cd), .val (.ref b15), .val (.long ((1 : Int64) <<< ((lw &&& (63 : Int32)).toInt64 &&& 63))), .second, .val (.int (0 : Int32)), .val .null, .unset] [(.long pv), (.long pv)])) _
        refine XS.lcmp X26.here hx rfl (hb hby at_150) rfl ?_
        show Steps p.tables e below (T26.setTop (mkF m 151 #[.val (.int px), .val (.long pw), .second, .val (.long pv), .second, .val (.int lw), .val (.int ii), .val (.int jj), .val (.int (512 : Int32)), .val (.ref b6), .val (.int z11), .val (.int cd), .val (.ref b15), .val (.long ((1 : Int64) <<< ((lw &&& (63 : Int32)).toInt64 &&& 63))), .second, .val (.int (0 : Int32)), .val .null, .unset] [(.int (lcmpW pv pv))])) _
        refine XS.ifNo X26.here hx rfl (hb hby at_151) rfl ((if0 _ _).trans (teq ((lw_eq _ _).mpr rfl : (lcmpW pv pv) = (0 : Int32))).2) ?_
        show Steps p.tables e below (T26.setTop (mkF m 154 #[.val (.int px), .val (.long pw), .second, .val (.long pv), .second, .val (.int lw), .val (.int ii), .val (.int jj), .val (.int (512 : Int32)), .val (.ref b6), .val (.int z11), .val (.int cd), .val (.ref b15), .val (.long ((1 : Int64) <<< ((lw &&& (63 : Int32)).toInt64 &&& 63))), .second, .val (.int (0 : Int32)), .val .null, .unset] [])) _
        refine XS.aload X26.here hx rfl (hb hby at_154) rfl rfl ?_
        show Steps p.tables e below (T26.setTop (mkF m 156 #[.val (.int px), .val (.long pw), .second, .val (.long pv), .second, .val (.int lw), .val (.int ii), .val (.int jj), .val (.int (512 : Int32)), .val (.ref b6), .val (.int z11), .val (.int cd), .val (.ref b15), .val (.long ((1 : Int64) <<< ((lw &&& (63 : Int32)).toInt64 &&& 63))), .second, .val (.int (0 : Int32)), .val .null, .unset] [(.ref b15)])) _
        refine XS.iload X26.here hx rfl (hb hby at_156) rfl ?_
        show Steps p.tables e below (T26.setTop (mkF m 158 #[.val (.int px), .val (.long pw), .second, .val (.long pv), .second, .val (.int lw), .val (.int ii), .val (.int jj), .val (.int (512 : Int32)), .val (.ref b6), .val (.int z11), .val (.int cd), .val (.ref b15), .val (.long ((1 : Int64) <<< ((lw &&& (63 : Int32)).toInt64 &&& 63))), .second, .val (.int (0 : Int32)), .val .null, .unset] [(.int lw), (.ref b15)])) _
        refine st27.trans ?_
        show Steps p.tables e below (T27.setTop (mkF m 161 #[.val (.int px), .val (.long pw), .second, .val (.long pv), .second, .val (.int lw), .val (.int ii), .val (.int jj), .val (.int (512 : Int32)), .val (.ref b6), .val (.int z11), .val (.int cd), .val (.ref b15), .val (.long ((1 : Int64) <<< ((lw &&& (63 : Int32)).toInt64 &&& 63))), .second, .val (.int (0 : Int32)), .val .null, .unset] [(.int (contF lw f11))])) _
        refine XS.ifNo X27.here hx rfl (hb hby at_161) rfl ((if0 _ _).trans (feq (by unfold contF; rw [if_neg (show ¬ ((lcmpW (f11 ((lw.toUInt32 >>> ((6 : Int32) &&& 31).toUInt32).toInt32).toNatClampNeg &&& ((1 : Int64) <<< (lw.toInt64 &&& 63))) (0 : Int64)) = (0 : Int32)) from by rw [lw_eq, ← h_ii, hni]; exact hab.2)]; decide : ¬ ((contF lw f11) = (0 : Int32)))).1) ?_
        show Steps p.tables e below (T27.setTop (mkF m 164 #[.val (.int px), .val (.long pw), .second, .val (.long pv), .second, .val (.int lw), .val (.int ii), .val (.int jj), .val (.int (512 : Int32)), .val (.ref b6), .val (.int z11), .val (.int cd), .val (.ref b15), .val (.long ((1 : Int64) <<< ((lw &&& (63 : Int32)).toInt64 &&& 63))), .second, .val (.int (0 : Int32)), .val .null, .unset] [])) _
        refine XS.iconst X27.here hx rfl (hb hby at_164) ?_
        show Steps p.tables e below (T27.setTop (mkF m 165 #[.val (.int px), .val (.long pw), .second, .val (.long pv), .second, .val (.int lw), .val (.int ii), .val (.int jj), .val (.int (512 : Int32)), .val (.ref b6), .val (.int z11), .val (.int cd), .val (.ref b15), .val (.long ((1 : Int64) <<< ((lw &&& (63 : Int32)).toInt64 &&& 63))), .second, .val (.int (0 : Int32)), .val .null, .unset] [(.int (1 : Int32))])) _
        refine XS.goto X27.here hx rfl (pc0 := 165) (pc' := 169) rfl (hb hby at_165) (by decide) (by decide) ?_
        show Steps p.tables e below (T27.setTop (mkF m 169 #[.val (.int px), .val (.long pw), .second, .val (.long pv), .second, .val (.int lw), .val (.int ii), .val (.int jj), .val (.int (512 : Int32)), .val (.ref b6), .val (.int z11), .val (.int cd), .val (.ref b15), .val (.long ((1 : Int64) <<< ((lw &&& (63 : Int32)).toInt64 &&& 63))), .second, .val (.int (0 : Int32)), .val .null, .unset] [(.int (1 : Int32))])) _
        refine XS.istore X27.here hx rfl (hb hby at_169) rfl (l' := #[.val (.int px), .val (.long pw), .second, .val (.long pv), .second, .val (.int lw), .val (.int ii), .val (.int jj), .val (.int (512 : Int32)), .val (.ref b6), .val (.int z11), .val (.int cd), .val (.ref b15), .val (.long ((1 : Int64) <<< ((lw &&& (63 : Int32)).toInt64 &&& 63))), .second, .val (.int (0 : Int32)), .val .null, .val (.int (1 : Int32))]) rfl ?_
        show Steps p.tables e below (T27.setTop (mkF m 171 #[.val (.int px), .val (.long pw), .second, .val (.long pv), .second, .val (.int lw), .val (.int ii), .val (.int jj), .val (.int (512 : Int32)), .val (.ref b6), .val (.int z11), .val (.int cd), .val (.ref b15), .val (.long ((1 : Int64) <<< ((lw &&& (63 : Int32)).toInt64 &&& 63))), .second, .val (.int (0 : Int32)), .val .null, .val (.int (1 : Int32))] [])) _
        refine XS.iload X27.here hx rfl (hb hby at_171) rfl ?_
        show Steps p.tables e below (T27.setTop (mkF m 173 #[.val (.int px), .val (.long pw), .second, .val (.long pv), .second, .val (.int lw), .val (.int ii), .val (.int jj), .val (.int (512 : Int32)), .val (.ref b6), .val (.int z11), .val (.int cd), .val (.ref b15), .val (.long ((1 : Int64) <<< ((lw &&& (63 : Int32)).toInt64 &&& 63))), .second, .val (.int (0 : Int32)), .val .null, .val (.int (1 : Int32))] [(.int (0 : Int32))])) _
        refine XS.ifYes X27.here hx rfl (pc0 := 173) (pc' := 225) rfl (hb hby at_173) rfl ((if0 _ _).trans (teq (rfl : (0 : Int32) = (0 : Int32))).1) (by decide) (by decide) ?_
        show Steps p.tables e below (T27.setTop (mkF m 225 #[.val (.int px), .val (.long pw), .second, .val (.long pv), .second, .val (.int lw), .val (.int ii), .val (.int jj), .val (.int (512 : Int32)), .val (.ref b6), .val (.int z11), .val (.int cd), .val (.ref b15), .val (.long ((1 : Int64) <<< ((lw &&& (63 : Int32)).toInt64 &&& 63))), .second, .val (.int (0 : Int32)), .val .null, .val (.int (1 : Int32))] [])) _
        refine XS.iload X27.here hx rfl (hb hby at_225) rfl ?_
        show Steps p.tables e below (T27.setTop (mkF m 227 #[.val (.int px), .val (.long pw), .second, .val (.long pv), .second, .val (.int lw), .val (.int ii), .val (.int jj), .val (.int (512 : Int32)), .val (.ref b6), .val (.int z11), .val (.int cd), .val (.ref b15), .val (.long ((1 : Int64) <<< ((lw &&& (63 : Int32)).toInt64 &&& 63))), .second, .val (.int (0 : Int32)), .val .null, .val (.int (1 : Int32))] [(.int (1 : Int32))])) _
        refine XS.ifNo X27.here hx rfl (hb hby at_227) rfl ((if0 _ _).trans (feq (by decide : ¬ ((1 : Int32) = (0 : Int32)))).1) ?_
        show Steps p.tables e below (T27.setTop (mkF m 230 #[.val (.int px), .val (.long pw), .second, .val (.long pv), .second, .val (.int lw), .val (.int ii), .val (.int jj), .val (.int (512 : Int32)), .val (.ref b6), .val (.int z11), .val (.int cd), .val (.ref b15), .val (.long ((1 : Int64) <<< ((lw &&& (63 : Int32)).toInt64 &&& 63))), .second, .val (.int (0 : Int32)), .val .null, .val (.int (1 : Int32))] [])) _
        refine XS.aload X27.here hx rfl (hb hby at_230) rfl rfl ?_
        show Steps p.tables e below (T27.setTop (mkF m 232 #[.val (.int px), .val (.long pw), .second, .val (.long pv), .second, .val (.int lw), .val (.int ii), .val (.int jj), .val (.int (512 : Int32)), .val (.ref b6), .val (.int z11), .val (.int cd), .val (.ref b15), .val (.long ((1 : Int64) <<< ((lw &&& (63 : Int32)).toInt64 &&& 63))), .second, .val (.int (0 : Int32)), .val .null, .val (.int (1 : Int32))] [.null])) _
        refine XS.ifnonnullNo X27.here hx rfl (hb hby at_232) rfl ?_
        show Steps p.tables e below (T27.setTop (mkF m 235 #[.val (.int px), .val (.long pw), .second, .val (.long pv), .second, .val (.int lw), .val (.int ii), .val (.int jj), .val (.int (512 : Int32)), .val (.ref b6), .val (.int z11), .val (.int cd), .val (.ref b15), .val (.long ((1 : Int64) <<< ((lw &&& (63 : Int32)).toInt64 &&& 63))), .second, .val (.int (0 : Int32)), .val .null, .val (.int (1 : Int32))] [])) _
        refine XS.aload X27.here hx rfl (hb hby at_235) rfl rfl ?_
        show Steps p.tables e below (T27.setTop (mkF m 237 #[.val (.int px), .val (.long pw), .second, .val (.long pv), .second, .val (.int lw), .val (.int ii), .val (.int jj), .val (.int (512 : Int32)), .val (.ref b6), .val (.int z11), .val (.int cd), .val (.ref b15), .val (.long ((1 : Int64) <<< ((lw &&& (63 : Int32)).toInt64 &&& 63))), .second, .val (.int (0 : Int32)), .val .null, .val (.int (1 : Int32))] [(.ref b15)])) _
        refine XS.iload X27.here hx rfl (hb hby at_237) rfl ?_
        show Steps p.tables e below (T27.setTop (mkF m 239 #[.val (.int px), .val (.long pw), .second, .val (.long pv), .second, .val (.int lw), .val (.int ii), .val (.int jj), .val (.int (512 : Int32)), .val (.ref b6), .val (.int z11), .val (.int cd), .val (.ref b15), .val (.long ((1 : Int64) <<< ((lw &&& (63 : Int32)).toInt64 &&& 63))), .second, .val (.int (0 : Int32)), .val .null, .val (.int (1 : Int32))] [(.int ii), (.ref b15)])) _
        refine st28.trans ?_
        show Steps p.tables e below (T28.setTop (mkF m 242 #[.val (.int px), .val (.long pw), .second, .val (.long pv), .second, .val (.int lw), .val (.int ii), .val (.int jj), .val (.int (512 : Int32)), .val (.ref b6), .val (.int z11), .val (.int cd), .val (.ref b15), .val (.long ((1 : Int64) <<< ((lw &&& (63 : Int32)).toInt64 &&& 63))), .second, .val (.int (0 : Int32)), .val .null, .val (.int (1 : Int32))] [(.long pw)])) _
        refine XS.lloadN X28.here hx rfl (hb hby at_242) rfl ?_
        show Steps p.tables e below (T28.setTop (mkF m 243 #[.val (.int px), .val (.long pw), .second, .val (.long pv), .second, .val (.int lw), .val (.int ii), .val (.int jj), .val (.int (512 : Int32)), .val (.ref b6), .val (.int z11), .val (.int cd), .val (.ref b15), .val (.long ((1 : Int64) <<< ((lw &&& (63 : Int32)).toInt64 &&& 63))), .second, .val (.int (0 : Int32)), .val .null, .val (.int (1 : Int32))] [(.long pw), (.long pw)])) _
        refine XS.lcmp X28.here hx rfl (hb hby at_243) rfl ?_
        show Steps p.tables e below (T28.setTop (mkF m 244 #[.val (.int px), .val (.long pw), .second, .val (.long pv), .second, .val (.int lw), .val (.int ii), .val (.int jj), .val (.int (512 : Int32)), .val (.ref b6), .val (.int z11), .val (.int cd), .val (.ref b15), .val (.long ((1 : Int64) <<< ((lw &&& (63 : Int32)).toInt64 &&& 63))), .second, .val (.int (0 : Int32)), .val .null, .val (.int (1 : Int32))] [(.int (lcmpW pw pw))])) _
        refine XS.ifNo X28.here hx rfl (hb hby at_244) rfl ((if0 _ _).trans (teq ((lw_eq _ _).mpr rfl : (lcmpW pw pw) = (0 : Int32))).2) ?_
        show Steps p.tables e below (T28.setTop (mkF m 247 #[.val (.int px), .val (.long pw), .second, .val (.long pv), .second, .val (.int lw), .val (.int ii), .val (.int jj), .val (.int (512 : Int32)), .val (.ref b6), .val (.int z11), .val (.int cd), .val (.ref b15), .val (.long ((1 : Int64) <<< ((lw &&& (63 : Int32)).toInt64 &&& 63))), .second, .val (.int (0 : Int32)), .val .null, .val (.int (1 : Int32))] [])) _
        refine XS.aload X28.here hx rfl (hb hby at_247) rfl rfl ?_
        show Steps p.tables e below (T28.setTop (mkF m 249 #[.val (.int px), .val (.long pw), .second, .val (.long pv), .second, .val (.int lw), .val (.int ii), .val (.int jj), .val (.int (512 : Int32)), .val (.ref b6), .val (.int z11), .val (.int cd), .val (.ref b15), .val (.long ((1 : Int64) <<< ((lw &&& (63 : Int32)).toInt64 &&& 63))), .second, .val (.int (0 : Int32)), .val .null, .val (.int (1 : Int32))] [(.ref b15)])) _
        refine st29.trans ?_
        show Steps p.tables e below (T29.setTop (mkF m 252 #[.val (.int px), .val (.long pw), .second, .val (.long pv), .second, .val (.int lw), .val (.int ii), .val (.int jj), .val (.int (512 : Int32)), .val (.ref b6), .val (.int z11), .val (.int cd), .val (.ref b15), .val (.long ((1 : Int64) <<< ((lw &&& (63 : Int32)).toInt64 &&& 63))), .second, .val (.int (0 : Int32)), .val .null, .val (.int (1 : Int32))] [(.int cd)])) _
        refine XS.iload X29.here hx rfl (hb hby at_252) rfl ?_
        show Steps p.tables e below (T29.setTop (mkF m 254 #[.val (.int px), .val (.long pw), .second, .val (.long pv), .second, .val (.int lw), .val (.int ii), .val (.int jj), .val (.int (512 : Int32)), .val (.ref b6), .val (.int z11), .val (.int cd), .val (.ref b15), .val (.long ((1 : Int64) <<< ((lw &&& (63 : Int32)).toInt64 &&& 63))), .second, .val (.int (0 : Int32)), .val .null, .val (.int (1 : Int32))] [(.int cd), (.int cd)])) _
        refine XS.icmpNo X29.here hx rfl (hb hby at_254) rfl (teq (rfl : cd = cd)).2 ?_
        show Steps p.tables e below (T29.setTop (mkF m 257 #[.val (.int px), .val (.long pw), .second, .val (.long pv), .second, .val (.int lw), .val (.int ii), .val (.int jj), .val (.int (512 : Int32)), .val (.ref b6), .val (.int z11), .val (.int cd), .val (.ref b15), .val (.long ((1 : Int64) <<< ((lw &&& (63 : Int32)).toInt64 &&& 63))), .second, .val (.int (0 : Int32)), .val .null, .val (.int (1 : Int32))] [])) _
        refine XS.iconst X29.here hx rfl (hb hby at_257) ?_
        show Steps p.tables e below (T29.setTop (mkF m 258 #[.val (.int px), .val (.long pw), .second, .val (.long pv), .second, .val (.int lw), .val (.int ii), .val (.int jj), .val (.int (512 : Int32)), .val (.ref b6), .val (.int z11), .val (.int cd), .val (.ref b15), .val (.long ((1 : Int64) <<< ((lw &&& (63 : Int32)).toInt64 &&& 63))), .second, .val (.int (0 : Int32)), .val .null, .val (.int (1 : Int32))] [(.int (1 : Int32))])) _
        refine XS.goto X29.here hx rfl (pc0 := 258) (pc' := 262) rfl (hb hby at_258) (by decide) (by decide) ?_
        show Steps p.tables e below (T29.setTop (mkF m 262 #[.val (.int px), .val (.long pw), .second, .val (.long pv), .second, .val (.int lw), .val (.int ii), .val (.int jj), .val (.int (512 : Int32)), .val (.ref b6), .val (.int z11), .val (.int cd), .val (.ref b15), .val (.long ((1 : Int64) <<< ((lw &&& (63 : Int32)).toInt64 &&& 63))), .second, .val (.int (0 : Int32)), .val .null, .val (.int (1 : Int32))] [(.int (1 : Int32))])) _
        refine XS.istore X29.here hx rfl (hb hby at_262) rfl (l' := #[.val (.int px), .val (.long pw), .second, .val (.long pv), .second, .val (.int lw), .val (.int ii), .val (.int jj), .val (.int (512 : Int32)), .val (.ref b6), .val (.int z11), .val (.int cd), .val (.ref b15), .val (.long ((1 : Int64) <<< ((lw &&& (63 : Int32)).toInt64 &&& 63))), .second, .val (.int (0 : Int32)), .val .null, .val (.int (1 : Int32))]) rfl ?_
        show Steps p.tables e below (T29.setTop (mkF m 264 #[.val (.int px), .val (.long pw), .second, .val (.long pv), .second, .val (.int lw), .val (.int ii), .val (.int jj), .val (.int (512 : Int32)), .val (.ref b6), .val (.int z11), .val (.int cd), .val (.ref b15), .val (.long ((1 : Int64) <<< ((lw &&& (63 : Int32)).toInt64 &&& 63))), .second, .val (.int (0 : Int32)), .val .null, .val (.int (1 : Int32))] [])) _
        refine XS.iload X29.here hx rfl (hb hby at_264) rfl ?_
        show Steps p.tables e below (T29.setTop (mkF m 266 #[.val (.int px), .val (.long pw), .second, .val (.long pv), .second, .val (.int lw), .val (.int ii), .val (.int jj), .val (.int (512 : Int32)), .val (.ref b6), .val (.int z11), .val (.int cd), .val (.ref b15), .val (.long ((1 : Int64) <<< ((lw &&& (63 : Int32)).toInt64 &&& 63))), .second, .val (.int (0 : Int32)), .val .null, .val (.int (1 : Int32))] [(.int (1 : Int32))])) _
        exact retN X29 hx (t := .boolean) Bd.returns (by simp) (hb hby at_266) hr
      · show Q0 Z px pw pv h0 n0 _ T29.heap _
        rw [e29]
        exact ⟨rfl, N29⟩
  · have hhf : ¬ ii.toInt < 512 := by rw [Int32.lt_iff_toInt_lt, e512] at hc24_5; exact hc24_5
    obtain ⟨T31, h31, k31, X31, e31, E31, A31, st31⟩ := newP X0 hx hZ (hw _ (List.mem_of_getElem? (i := 1) rfl)) e0 (g := (mkF m 39 #[.val (.int px), .val (.long pw), .second, .val (.long pv), .second, .val (.int lw), .val (.int ii), .val (.int jj), .val (.int (0 : Int32)), .unset, .unset, .unset, .unset, .unset, .unset, .unset, .unset, .unset] [(.int (1024 : Int32))])) rfl (hb hby at_39) rfl (by decide) (cap := 1024) (by decide) (by decide) (by decide) (by decide)
    obtain ⟨b31, g31⟩ : ∃ z, z = h0.size := ⟨_, rfl⟩
    rw [← g31] at A31 st31
    have g_b31 : n0 ≤ b31 := Nat.le_trans Z0 (Nat.le_of_eq g31.symm)
    have sz_b31 : h0.size ≤ b31 := Nat.le_trans (Keep.refl h0 []).1 (Nat.le_of_eq g31.symm)
    have Kc31 : Keep h0 h31 [] := (Keep.refl h0 []).ext E31
    have V_b31 : LA Z h31 b31 (fun _ => 0) := LA.new A31 (by decide)
    have Vk32 := V_b31
    obtain ⟨cl32, Ar32, hz32, he32⟩ := Vk32
    have hin32 := own_in hz32 (j := ii) ri0 ri1
    obtain ⟨T33, h33, X33, e33, W33, st33⟩ := stJ X31 hx hZ e31 Ar32 (j := ii) hin32 (g := (mkF m 48 #[.val (.int px), .val (.long pw), .second, .val (.long pv), .second, .val (.int lw), .val (.int ii), .val (.int jj), .val (.int (0 : Int32)), .val (.ref b31), .unset, .unset, .unset, .unset, .unset, .unset, .unset, .unset] [(.long pw), (.int ii), (.ref b31)])) rfl rfl (hb hby at_48)
    have Kc33 : Keep h0 h33 [] := Kc31.wr W33 (Or.inr sz_b31)
    have N33 := Fr.snoc X33 N0 g_b31
    obtain ⟨f33, hf_f33⟩ : ∃ g : Nat → Int64, g = fun k => if k = ii.toNatClampNeg then pw else (fun _ => (0 : Int64)) k := ⟨_, rfl⟩
    have V33 : LA Z h33 b31 f33 := by rw [hf_f33]; exact LA.set (f := (fun _ => (0 : Int64))) V_b31 W33
    have Vk34 := V33
    obtain ⟨cl34, Ar34, hz34, he34⟩ := Vk34
    have hin34 := own_in hz34 (j := jj) rj0 rj1
    obtain ⟨T35, h35, X35, e35, W35, st35⟩ := stJ X33 hx hZ e33 Ar34 (j := jj) hin34 (g := (mkF m 54 #[.val (.int px), .val (.long pw), .second, .val (.long pv), .second, .val (.int lw), .val (.int ii), .val (.int jj), .val (.int (0 : Int32)), .val (.ref b31), .unset, .unset, .unset, .unset, .unset, .unset, .unset, .unset] [(.long pv), (.int jj), (.ref b31)])) rfl rfl (hb hby at_54)
    have Kc35 : Keep h0 h35 [] := Kc33.wr W35 (Or.inr sz_b31)
    have N35 := Fr.snoc X35 N33 g_b31
    obtain ⟨f35, hf_f35⟩ : ∃ g : Nat → Int64, g = fun k => if k = jj.toNatClampNeg then pv else f33 k := ⟨_, rfl⟩
    have V35 : LA Z h35 b31 f35 := by rw [hf_f35]; exact LA.set (f := f33) V33 W35
    obtain ⟨_, _, ⟨T36, L36, k36, n36⟩, -, X36, ⟨Lc36, hQ36, l36, y36, z36⟩, st36⟩ := Jvm.LawKit.callS X35 hx (y := (⟨"com/example/bitgrove/bitgrove/BitmapContainer", "setRange", "([JII)I"⟩ : MethodName)) hown (mvT hZ (hw _ (List.mem_of_getElem? (i := 2) rfl))) (mvT hZ (hw _ (List.mem_of_getElem? (i := 3) rfl))) (mvT hZ (hw _ (List.mem_of_getElem? (i := 4) rfl))) (mvT hZ (hw _ (List.mem_of_getElem? (i := 5) rfl))) (by decide) (backOf (W := 0) (rm1 l Z a0 hw [] b31 (0 : Int32) (4224 : Int32) f35 (0 : Int32) (65 : Int32) h35 n0 (Nat.le_trans Z0 Kc35.1) V35 g_b31 (by decide) (by decide) (by decide) (by decide) (by decide)) hZ (hw _ (List.mem_of_getElem? (i := 5) rfl)) (hw _ (List.mem_of_getElem? (i := 4) rfl)) (by decide) (by decide)) (g := (mkF m 71 #[.val (.int px), .val (.long pw), .second, .val (.long pv), .second, .val (.int lw), .val (.int ii), .val (.int jj), .val (.int (0 : Int32)), .val (.ref b31), .unset, .unset, .unset, .unset, .unset, .unset, .unset, .unset] [(.int (4224 : Int32)), (.int (0 : Int32)), (.ref b31)])) rfl (by rw [hml]; rfl) (argsL := [(.ref b31), (.int (0 : Int32)), (.int (4224 : Int32))]) (rest := []) (lenOf pd_4 rfl) rfl (by show 2 * 0 + _ ≤ _; exact Nat.le_of_eq rfl) (hb hby at_71) (fun _ _ => ⟨rfl, e35, (by decide : 1 + 0 ≤ _), (by decide : 1024 + 0 ≤ _)⟩)
    dsimp only [Pt.U, Pt.locs, Pt.cells, Pt.slots] at X36 l36 y36 z36 st36 hQ36
    subst l36 y36 z36
    obtain ⟨z36, f36, rfl, N36q, K36, V36, hf36⟩ := hQ36
    have N36 := Fr.app N35 N36q
    have Kc36 : Keep h0 T36.heap [] := Kc35.trans K36 (allS (Or.inr sz_b31) all0)
    have hwi : f36 ii.toNatClampNeg = pw := by
      rw [hf36 _ (by have := own_nat (j := ii) ri0; rw [show (0 : Int32).toInt = 0 from rfl, show (65 : Int32).toInt = 65 from rfl]; omega), hf_f35]
      show (if ii.toNatClampNeg = jj.toNatClampNeg then pv else f33 ii.toNatClampNeg) = pw
      rw [if_neg (by have := own_nat (j := ii) ri0; have := own_nat (j := jj) rj0; omega), hf_f33]
      exact if_pos rfl
    have hvj : f36 jj.toNatClampNeg = pv := by
      rw [hf36 _ (by have := own_nat (j := jj) rj0; rw [show (0 : Int32).toInt = 0 from rfl, show (65 : Int32).toInt = 65 from rfl]; omega), hf_f35]
      exact if_pos rfl
    obtain ⟨_, _, ⟨T37, L37, k37, n37⟩, -, X37, ⟨Lc37, hQ37, l37, y37, z37⟩, st37⟩ := Jvm.LawKit.callS X36 hx (y := (⟨"com/example/bitgrove/bitgrove/HeapBitmapContainerAddPinLaw", "pop", "(J)I"⟩ : MethodName)) hown (mvT hZ (hw _ (List.mem_of_getElem? (i := 17) rfl))) (mvT hZ (hw _ (List.mem_of_getElem? (i := 18) rfl))) (mvT hZ (hw _ (List.mem_of_getElem? (i := 19) rfl))) (mvT hZ (hw _ (List.mem_of_getElem? (i := 20) rfl))) (by decide) (backOf (W := 1) (rm4 l Z a0 hw [] pw T36.heap n0 (Nat.le_trans Z0 Kc36.1) ) hZ (hw _ (List.mem_of_getElem? (i := 20) rfl)) (hw _ (List.mem_of_getElem? (i := 19) rfl)) (by decide) (by decide)) (g := (mkF m 79 #[.val (.int px), .val (.long pw), .second, .val (.long pv), .second, .val (.int lw), .val (.int ii), .val (.int jj), .val (.int (0 : Int32)), .val (.ref b31), .val (.int z36), .unset, .unset, .unset, .unset, .unset, .unset, .unset] [(.long pw), (.int z36)])) rfl (by rw [hml]; rfl) (argsL := [(.long pw)]) (rest := [(.int z36)]) (lenOf pd_1 rfl) rfl (by show 2 * 0 + _ ≤ _; exact Nat.le_of_eq rfl) (hb hby at_79) (fun _ _ => ⟨rfl, rfl, (by decide : 1 + 0 ≤ _), (by decide : 1024 + 0 ≤ _)⟩)
    dsimp only [Pt.U, Pt.locs, Pt.cells, Pt.slots] at X37 l37 y37 z37 st37 hQ37
    subst l37 y37 z37
    obtain ⟨z37, rfl, N37q, e37⟩ := hQ37
    have N37 := Fr.app N36 N37q
    obtain ⟨_, _, ⟨T38, L38, k38, n38⟩, -, X38, ⟨Lc38, hQ38, l38, y38, z38⟩, st38⟩ := Jvm.LawKit.callS X37 hx (y := (⟨"com/example/bitgrove/bitgrove/HeapBitmapContainerAddPinLaw", "pop", "(J)I"⟩ : MethodName)) hown (mvT hZ (hw _ (List.mem_of_getElem? (i := 17) rfl))) (mvT hZ (hw _ (List.mem_of_getElem? (i := 18) rfl))) (mvT hZ (hw _ (List.mem_of_getElem? (i := 19) rfl))) (mvT hZ (hw _ (List.mem_of_getElem? (i := 20) rfl))) (by decide) (backOf (W := 1) (rm4 l Z a0 hw [] pv T36.heap n0 (Nat.le_trans Z0 Kc36.1) ) hZ (hw _ (List.mem_of_getElem? (i := 20) rfl)) (hw _ (List.mem_of_getElem? (i := 19) rfl)) (by decide) (by decide)) (g := (mkF m 84 #[.val (.int px), .val (.long pw), .second, .val (.long pv), .second, .val (.int lw), .val (.int ii), .val (.int jj), .val (.int (0 : Int32)), .val (.ref b31), .val (.int z36), .unset, .unset, .unset, .unset, .unset, .unset, .unset] [(.long pv), (.int (z36 + z37))])) rfl (by rw [hml]; rfl) (argsL := [(.long pv)]) (rest := [(.int (z36 + z37))]) (lenOf pd_1 rfl) rfl (by show 2 * 0 + _ ≤ _; exact Nat.le_of_eq rfl) (hb hby at_84) (fun _ _ => ⟨rfl, e37, (by decide : 1 + 0 ≤ _), (by decide : 1024 + 0 ≤ _)⟩)
    dsimp only [Pt.U, Pt.locs, Pt.cells, Pt.slots] at X38 l38 y38 z38 st38 hQ38
    subst l38 y38 z38
    obtain ⟨z38, rfl, N38q, e38⟩ := hQ38
    have N38 := Fr.app N37 N38q
    have pre39 : ∀ tq, Steps p.tables e below (T38.setTop (mkF m 90 #[.val (.int px), .val (.long pw), .second, .val (.long pv), .second, .val (.int lw), .val (.int ii), .val (.int jj), .val (.int (0 : Int32)), .val (.ref b31), .val (.int z36), .val (.int ((z36 + z37) + z38)), .unset, .unset, .unset, .unset, .unset, .unset] [])) tq → Steps p.tables e below (s₁.setTop (entryFrame m #[(.int px), (.long pw), (.long pv)] maxLocals)) tq := by
      intro tq kt
      refine pre4 tq ?_
      show Steps p.tables e below (s₁.setTop (mkF m 24 #[.val (.int px), .val (.long pw), .second, .val (.long pv), .second, .val (.int lw), .val (.int ii), .val (.int jj), .unset, .unset, .unset, .unset, .unset, .unset, .unset, .unset, .unset, .unset] [(.int (512 : Int32)), (.int ii)])) _
      refine XS.icmpYes X0.here hx rfl (pc0 := 24) (pc' := 33) rfl (hb hby at_24) rfl (flt hc24_5).2.1 (by decide) (by decide) ?_
      show Steps p.tables e below (s₁.setTop (mkF m 33 #[.val (.int px), .val (.long pw), .second, .val (.long pv), .second, .val (.int lw), .val (.int ii), .val (.int jj), .unset, .unset, .unset, .unset, .unset, .unset, .unset, .unset, .unset, .unset] [])) _
      refine XS.iconst X0.here hx rfl (hb hby at_33) ?_
      show Steps p.tables e below (s₁.setTop (mkF m 34 #[.val (.int px), .val (.long pw), .second, .val (.long pv), .second, .val (.int lw), .val (.int ii), .val (.int jj), .unset, .unset, .unset, .unset, .unset, .unset, .unset, .unset, .unset, .unset] [(.int (0 : Int32))])) _
      refine XS.istore X0.here hx rfl (hb hby at_34) rfl (l' := #[.val (.int px), .val (.long pw), .second, .val (.long pv), .second, .val (.int lw), .val (.int ii), .val (.int jj), .val (.int (0 : Int32)), .unset, .unset, .unset, .unset, .unset, .unset, .unset, .unset, .unset]) rfl ?_
      show Steps p.tables e below (s₁.setTop (mkF m 36 #[.val (.int px), .val (.long pw), .second, .val (.long pv), .second, .val (.int lw), .val (.int ii), .val (.int jj), .val (.int (0 : Int32)), .unset, .unset, .unset, .unset, .unset, .unset, .unset, .unset, .unset] [])) _
      refine XS.sipush X0.here hx rfl (hb hby at_36) ?_
      show Steps p.tables e below (s₁.setTop (mkF m 39 #[.val (.int px), .val (.long pw), .second, .val (.long pv), .second, .val (.int lw), .val (.int ii), .val (.int jj), .val (.int (0 : Int32)), .unset, .unset, .unset, .unset, .unset, .unset, .unset, .unset, .unset] [(.int (1024 : Int32))])) _
      refine st31 _ ?_
      show Steps p.tables e below (T31.setTop (mkF m 41 #[.val (.int px), .val (.long pw), .second, .val (.long pv), .second, .val (.int lw), .val (.int ii), .val (.int jj), .val (.int (0 : Int32)), .unset, .unset, .unset, .unset, .unset, .unset, .unset, .unset, .unset] [(.ref b31)])) _
      refine XS.astore X31.here hx rfl (hb hby at_41) rfl rfl (l' := #[.val (.int px), .val (.long pw), .second, .val (.long pv), .second, .val (.int lw), .val (.int ii), .val (.int jj), .val (.int (0 : Int32)), .val (.ref b31), .unset, .unset, .unset, .unset, .unset, .unset, .unset, .unset]) rfl ?_
      show Steps p.tables e below (T31.setTop (mkF m 43 #[.val (.int px), .val (.long pw), .second, .val (.long pv), .second, .val (.int lw), .val (.int ii), .val (.int jj), .val (.int (0 : Int32)), .val (.ref b31), .unset, .unset, .unset, .unset, .unset, .unset, .unset, .unset] [])) _
      refine XS.aload X31.here hx rfl (hb hby at_43) rfl rfl ?_
      show Steps p.tables e below (T31.setTop (mkF m 45 #[.val (.int px), .val (.long pw), .second, .val (.long pv), .second, .val (.int lw), .val (.int ii), .val (.int jj), .val (.int (0 : Int32)), .val (.ref b31), .unset, .unset, .unset, .unset, .unset, .unset, .unset, .unset] [(.ref b31)])) _
      refine XS.iload X31.here hx rfl (hb hby at_45) rfl ?_
      show Steps p.tables e below (T31.setTop (mkF m 47 #[.val (.int px), .val (.long pw), .second, .val (.long pv), .second, .val (.int lw), .val (.int ii), .val (.int jj), .val (.int (0 : Int32)), .val (.ref b31), .unset, .unset, .unset, .unset, .unset, .unset, .unset, .unset] [(.int ii), (.ref b31)])) _
      refine XS.lloadN X31.here hx rfl (hb hby at_47) rfl ?_
      show Steps p.tables e below (T31.setTop (mkF m 48 #[.val (.int px), .val (.long pw), .second, .val (.long pv), .second, .val (.int lw), .val (.int ii), .val (.int jj), .val (.int (0 : Int32)), .val (.ref b31), .unset, .unset, .unset, .unset, .unset, .unset, .unset, .unset] [(.long pw), (.int ii), (.ref b31)])) _
      refine st33 _ ?_
      show Steps p.tables e below (T33.setTop (mkF m 49 #[.val (.int px), .val (.long pw), .second, .val (.long pv), .second, .val (.int lw), .val (.int ii), .val (.int jj), .val (.int (0 : Int32)), .val (.ref b31), .unset, .unset, .unset, .unset, .unset, .unset, .unset, .unset] [])) _
      refine XS.aload X33.here hx rfl (hb hby at_49) rfl rfl ?_
      show Steps p.tables e below (T33.setTop (mkF m 51 #[.val (.int px), .val (.long pw), .second, .val (.long pv), .second, .val (.int lw), .val (.int ii), .val (.int jj), .val (.int (0 : Int32)), .val (.ref b31), .unset, .unset, .unset, .unset, .unset, .unset, .unset, .unset] [(.ref b31)])) _
      refine XS.iload X33.here hx rfl (hb hby at_51) rfl ?_
      show Steps p.tables e below (T33.setTop (mkF m 53 #[.val (.int px), .val (.long pw), .second, .val (.long pv), .second, .val (.int lw), .val (.int ii), .val (.int jj), .val (.int (0 : Int32)), .val (.ref b31), .unset, .unset, .unset, .unset, .unset, .unset, .unset, .unset] [(.int jj), (.ref b31)])) _
      refine XS.lloadN X33.here hx rfl (hb hby at_53) rfl ?_
      show Steps p.tables e below (T33.setTop (mkF m 54 #[.val (.int px), .val (.long pw), .second, .val (.long pv), .second, .val (.int lw), .val (.int ii), .val (.int jj), .val (.int (0 : Int32)), .val (.ref b31), .unset, .unset, .unset, .unset, .unset, .unset, .unset, .unset] [(.long pv), (.int jj), (.ref b31)])) _
      refine st35 _ ?_
      show Steps p.tables e below (T35.setTop (mkF m 55 #[.val (.int px), .val (.long pw), .second, .val (.long pv), .second, .val (.int lw), .val (.int ii), .val (.int jj), .val (.int (0 : Int32)), .val (.ref b31), .unset, .unset, .unset, .unset, .unset, .unset, .unset, .unset] [])) _
      refine XS.aload X35.here hx rfl (hb hby at_55) rfl rfl ?_
      show Steps p.tables e below (T35.setTop (mkF m 57 #[.val (.int px), .val (.long pw), .second, .val (.long pv), .second, .val (.int lw), .val (.int ii), .val (.int jj), .val (.int (0 : Int32)), .val (.ref b31), .unset, .unset, .unset, .unset, .unset, .unset, .unset, .unset] [(.ref b31)])) _
      refine XS.iload X35.here hx rfl (hb hby at_57) rfl ?_
      show Steps p.tables e below (T35.setTop (mkF m 59 #[.val (.int px), .val (.long pw), .second, .val (.long pv), .second, .val (.int lw), .val (.int ii), .val (.int jj), .val (.int (0 : Int32)), .val (.ref b31), .unset, .unset, .unset, .unset, .unset, .unset, .unset, .unset] [(.int (0 : Int32)), (.ref b31)])) _
      refine XS.bipush X35.here hx rfl (hb hby at_59) ?_
      show Steps p.tables e below (T35.setTop (mkF m 61 #[.val (.int px), .val (.long pw), .second, .val (.long pv), .second, .val (.int lw), .val (.int ii), .val (.int jj), .val (.int (0 : Int32)), .val (.ref b31), .unset, .unset, .unset, .unset, .unset, .unset, .unset, .unset] [(.int (64 : Int32)), (.int (0 : Int32)), (.ref b31)])) _
      refine XS.imul X35.here hx rfl (hb hby at_61) rfl ?_
      show Steps p.tables e below (T35.setTop (mkF m 62 #[.val (.int px), .val (.long pw), .second, .val (.long pv), .second, .val (.int lw), .val (.int ii), .val (.int jj), .val (.int (0 : Int32)), .val (.ref b31), .unset, .unset, .unset, .unset, .unset, .unset, .unset, .unset] [(.int (0 : Int32)), (.ref b31)])) _
      refine XS.iload X35.here hx rfl (hb hby at_62) rfl ?_
      show Steps p.tables e below (T35.setTop (mkF m 64 #[.val (.int px), .val (.long pw), .second, .val (.long pv), .second, .val (.int lw), .val (.int ii), .val (.int jj), .val (.int (0 : Int32)), .val (.ref b31), .unset, .unset, .unset, .unset, .unset, .unset, .unset, .unset] [(.int (0 : Int32)), (.int (0 : Int32)), (.ref b31)])) _
      refine XS.bipush X35.here hx rfl (hb hby at_64) ?_
      show Steps p.tables e below (T35.setTop (mkF m 66 #[.val (.int px), .val (.long pw), .second, .val (.long pv), .second, .val (.int lw), .val (.int ii), .val (.int jj), .val (.int (0 : Int32)), .val (.ref b31), .unset, .unset, .unset, .unset, .unset, .unset, .unset, .unset] [(.int (64 : Int32)), (.int (0 : Int32)), (.int (0 : Int32)), (.ref b31)])) _
      refine XS.imul X35.here hx rfl (hb hby at_66) rfl ?_
      show Steps p.tables e below (T35.setTop (mkF m 67 #[.val (.int px), .val (.long pw), .second, .val (.long pv), .second, .val (.int lw), .val (.int ii), .val (.int jj), .val (.int (0 : Int32)), .val (.ref b31), .unset, .unset, .unset, .unset, .unset, .unset, .unset, .unset] [(.int (0 : Int32)), (.int (0 : Int32)), (.ref b31)])) _
      refine XS.sipush X35.here hx rfl (hb hby at_67) ?_
      show Steps p.tables e below (T35.setTop (mkF m 70 #[.val (.int px), .val (.long pw), .second, .val (.long pv), .second, .val (.int lw), .val (.int ii), .val (.int jj), .val (.int (0 : Int32)), .val (.ref b31), .unset, .unset, .unset, .unset, .unset, .unset, .unset, .unset] [(.int (4224 : Int32)), (.int (0 : Int32)), (.int (0 : Int32)), (.ref b31)])) _
      refine XS.iadd X35.here hx rfl (hb hby at_70) rfl ?_
      show Steps p.tables e below (T35.setTop (mkF m 71 #[.val (.int px), .val (.long pw), .second, .val (.long pv), .second, .val (.int lw), .val (.int ii), .val (.int jj), .val (.int (0 : Int32)), .val (.ref b31), .unset, .unset, .unset, .unset, .unset, .unset, .unset, .unset] [(.int (4224 : Int32)), (.int (0 : Int32)), (.ref b31)])) _
      refine st36 _ ?_
      show Steps p.tables e below (T36.setTop (mkF m 74 #[.val (.int px), .val (.long pw), .second, .val (.long pv), .second, .val (.int lw), .val (.int ii), .val (.int jj), .val (.int (0 : Int32)), .val (.ref b31), .unset, .unset, .unset, .unset, .unset, .unset, .unset, .unset] [(.int z36)])) _
      refine XS.istore X36.here hx rfl (hb hby at_74) rfl (l' := #[.val (.int px), .val (.long pw), .second, .val (.long pv), .second, .val (.int lw), .val (.int ii), .val (.int jj), .val (.int (0 : Int32)), .val (.ref b31), .val (.int z36), .unset, .unset, .unset, .unset, .unset, .unset, .unset]) rfl ?_
      show Steps p.tables e below (T36.setTop (mkF m 76 #[.val (.int px), .val (.long pw), .second, .val (.long pv), .second, .val (.int lw), .val (.int ii), .val (.int jj), .val (.int (0 : Int32)), .val (.ref b31), .val (.int z36), .unset, .unset, .unset, .unset, .unset, .unset, .unset] [])) _
      refine XS.iload X36.here hx rfl (hb hby at_76) rfl ?_
      show Steps p.tables e below (T36.setTop (mkF m 78 #[.val (.int px), .val (.long pw), .second, .val (.long pv), .second, .val (.int lw), .val (.int ii), .val (.int jj), .val (.int (0 : Int32)), .val (.ref b31), .val (.int z36), .unset, .unset, .unset, .unset, .unset, .unset, .unset] [(.int z36)])) _
      refine XS.lloadN X36.here hx rfl (hb hby at_78) rfl ?_
      show Steps p.tables e below (T36.setTop (mkF m 79 #[.val (.int px), .val (.long pw), .second, .val (.long pv), .second, .val (.int lw), .val (.int ii), .val (.int jj), .val (.int (0 : Int32)), .val (.ref b31), .val (.int z36), .unset, .unset, .unset, .unset, .unset, .unset, .unset] [(.long pw), (.int z36)])) _
      refine st37 _ ?_
      show Steps p.tables e below (T37.setTop (mkF m 82 #[.val (.int px), .val (.long pw), .second, .val (.long pv), .second, .val (.int lw), .val (.int ii), .val (.int jj), .val (.int (0 : Int32)), .val (.ref b31), .val (.int z36), .unset, .unset, .unset, .unset, .unset, .unset, .unset] [(.int z37), (.int z36)])) _
      refine XS.iadd X37.here hx rfl (hb hby at_82) rfl ?_
      show Steps p.tables e below (T37.setTop (mkF m 83 #[.val (.int px), .val (.long pw), .second, .val (.long pv), .second, .val (.int lw), .val (.int ii), .val (.int jj), .val (.int (0 : Int32)), .val (.ref b31), .val (.int z36), .unset, .unset, .unset, .unset, .unset, .unset, .unset] [(.int (z36 + z37))])) _
      refine XS.lloadN X37.here hx rfl (hb hby at_83) rfl ?_
      show Steps p.tables e below (T37.setTop (mkF m 84 #[.val (.int px), .val (.long pw), .second, .val (.long pv), .second, .val (.int lw), .val (.int ii), .val (.int jj), .val (.int (0 : Int32)), .val (.ref b31), .val (.int z36), .unset, .unset, .unset, .unset, .unset, .unset, .unset] [(.long pv), (.int (z36 + z37))])) _
      refine st38 _ ?_
      show Steps p.tables e below (T38.setTop (mkF m 87 #[.val (.int px), .val (.long pw), .second, .val (.long pv), .second, .val (.int lw), .val (.int ii), .val (.int jj), .val (.int (0 : Int32)), .val (.ref b31), .val (.int z36), .unset, .unset, .unset, .unset, .unset, .unset, .unset] [(.int z38), (.int (z36 + z37))])) _
      refine XS.iadd X38.here hx rfl (hb hby at_87) rfl ?_
      show Steps p.tables e below (T38.setTop (mkF m 88 #[.val (.int px), .val (.long pw), .second, .val (.long pv), .second, .val (.int lw), .val (.int ii), .val (.int jj), .val (.int (0 : Int32)), .val (.ref b31), .val (.int z36), .unset, .unset, .unset, .unset, .unset, .unset, .unset] [(.int ((z36 + z37) + z38))])) _
      refine XS.istore X38.here hx rfl (hb hby at_88) rfl (l' := #[.val (.int px), .val (.long pw), .second, .val (.long pv), .second, .val (.int lw), .val (.int ii), .val (.int jj), .val (.int (0 : Int32)), .val (.ref b31), .val (.int z36), .val (.int ((z36 + z37) + z38)), .unset, .unset, .unset, .unset, .unset, .unset]) rfl ?_
      show Steps p.tables e below (T38.setTop (mkF m 90 #[.val (.int px), .val (.long pw), .second, .val (.long pv), .second, .val (.int lw), .val (.int ii), .val (.int jj), .val (.int (0 : Int32)), .val (.ref b31), .val (.int z36), .val (.int ((z36 + z37) + z38)), .unset, .unset, .unset, .unset, .unset, .unset] [])) _
      exact kt
    obtain ⟨cd, h_cd⟩ : ∃ z : Int32, z = ((z36 + z37) + z38) := ⟨_, rfl⟩
    rw [← h_cd] at pre39
    obtain ⟨T40, h40, X40, e40, E40, A40, D40, -, st40⟩ := newO X38 hx hZ hown (hw _ (List.mem_of_getElem? (i := 25) rfl)) (hw _ (List.mem_of_getElem? (i := 26) rfl)) (hw _ (List.mem_of_getElem? (i := 27) rfl)) e38 (g := (mkF m 90 #[.val (.int px), .val (.long pw), .second, .val (.long pv), .second, .val (.int lw), .val (.int ii), .val (.int jj), .val (.int (0 : Int32)), .val (.ref b31), .val (.int z36), .val (.int cd), .unset, .unset, .unset, .unset, .unset, .unset] [])) rfl (hb hby at_90) (by decide) (by decide)
    obtain ⟨b40, g40⟩ : ∃ z, z = T36.heap.size := ⟨_, rfl⟩
    rw [← g40] at A40 D40 st40
    have g_b40 : n0 ≤ b40 := Nat.le_trans (Nat.le_trans Z0 Kc36.1) (Nat.le_of_eq g40.symm)
    have sz_b40 : h0.size ≤ b40 := Nat.le_trans Kc36.1 (Nat.le_of_eq g40.symm)
    have ne_b31_b40 : b31 ≠ b40 := Nat.ne_of_lt (Nat.lt_of_lt_of_le V36.lt (Nat.le_of_eq g40.symm))
    have Kc40 : Keep h0 h40 [] := Kc36.ext E40
    have F_words_b40 : Fld Z h40 b40 "com/example/bitgrove/bitgrove/HeapBitmapContainer" "words" "[J" .null := D40 (Or.inr (hw _ (List.mem_of_getElem? (i := 44) rfl))) (ty := (.array .long)) (by decide)
    have F_cardinality_b40 : Fld Z h40 b40 "com/example/bitgrove/bitgrove/HeapBitmapContainer" "cardinality" "I" (.int (0 : Int32)) := D40 (Or.inl (hw _ (List.mem_of_getElem? (i := 46) rfl))) (ty := .int) (by decide)
    obtain ⟨_, _, ⟨T41, L41, k41, n41⟩, -, X41, ⟨Lc41, hQ41, l41, y41, z41⟩, st41⟩ := X40.specialBack hx (y := (⟨"com/example/bitgrove/bitgrove/HeapBitmapContainer", "<init>", "([JI)V"⟩ : MethodName)) rfl hown (mvT hZ (hw _ (List.mem_of_getElem? (i := 28) rfl))) (mvT hZ (hw _ (List.mem_of_getElem? (i := 29) rfl))) (mvT hZ (hw _ (List.mem_of_getElem? (i := 30) rfl))) (by decide) (backOf (W := 1) (rm5 l Z a0 hw [] b40 b31 cd h40 n0 (Nat.le_trans Z0 Kc40.1) A40 g_b40 F_words_b40 F_cardinality_b40) hZ (hw _ (List.mem_of_getElem? (i := 30) rfl)) (hw _ (List.mem_of_getElem? (i := 27) rfl)) (by decide) (by decide)) (g := (mkF m 98 #[.val (.int px), .val (.long pw), .second, .val (.long pv), .second, .val (.int lw), .val (.int ii), .val (.int jj), .val (.int (0 : Int32)), .val (.ref b31), .val (.int z36), .val (.int cd), .unset, .unset, .unset, .unset, .unset, .unset] [(.int cd), (.ref b31), (.ref b40), (.ref b40)])) rfl (by rw [hml]; rfl) (Steps.refl _) (a := b40) (argsL := [(.ref b31), (.int cd)]) (rest := [(.ref b40)]) (lenOf pd_5 rfl) rfl (by show 2 * 0 + _ ≤ _; exact Nat.le_of_eq rfl) (hb hby at_98) (fun _ _ => ⟨rfl, e40, (by decide : 2 + 0 ≤ _), (by decide : 1026 + 0 ≤ _)⟩)
    dsimp only [Pt.U, Pt.locs, Pt.cells, Pt.slots] at X41 l41 y41 z41 st41 hQ41
    subst l41 y41 z41
    obtain ⟨rfl, N41q, K41, A41c, Fc0_41, Fc1_41⟩ := hQ41
    have N41 := Fr.app N38 N41q
    have Kc41 : Keep h0 T41.heap [] := Kc40.trans K41 (allS (Or.inr sz_b40) all0)
    have pre42 : ∀ tq, Steps p.tables e below (T41.setTop (mkF m 123 #[.val (.int px), .val (.long pw), .second, .val (.long pv), .second, .val (.int lw), .val (.int ii), .val (.int jj), .val (.int (0 : Int32)), .val (.ref b31), .val (.int z36), .val (.int cd), .val (.ref b40), .val (.long ((1 : Int64) <<< ((lw &&& (63 : Int32)).toInt64 &&& 63))), .second, .unset, .unset, .unset] [(.int (lcmpW ((XT.ushrL pw (lw &&& (63 : Int32))) &&& (1 : Int64)) (0 : Int64)))])) tq → Steps p.tables e below (s₁.setTop (entryFrame m #[(.int px), (.long pw), (.long pv)] maxLocals)) tq := by
      intro tq kt
      refine pre39 tq ?_
      show Steps p.tables e below (T38.setTop (mkF m 90 #[.val (.int px), .val (.long pw), .second, .val (.long pv), .second, .val (.int lw), .val (.int ii), .val (.int jj), .val (.int (0 : Int32)), .val (.ref b31), .val (.int z36), .val (.int cd), .unset, .unset, .unset, .unset, .unset, .unset] [])) _
      refine st40 _ ?_
      show Steps p.tables e below (T40.setTop (mkF m 93 #[.val (.int px), .val (.long pw), .second, .val (.long pv), .second, .val (.int lw), .val (.int ii), .val (.int jj), .val (.int (0 : Int32)), .val (.ref b31), .val (.int z36), .val (.int cd), .unset, .unset, .unset, .unset, .unset, .unset] [(.ref b40)])) _
      refine XS.dup X40.here hx rfl (hb hby at_93) rfl rfl ?_
      show Steps p.tables e below (T40.setTop (mkF m 94 #[.val (.int px), .val (.long pw), .second, .val (.long pv), .second, .val (.int lw), .val (.int ii), .val (.int jj), .val (.int (0 : Int32)), .val (.ref b31), .val (.int z36), .val (.int cd), .unset, .unset, .unset, .unset, .unset, .unset] [(.ref b40), (.ref b40)])) _
      refine XS.aload X40.here hx rfl (hb hby at_94) rfl rfl ?_
      show Steps p.tables e below (T40.setTop (mkF m 96 #[.val (.int px), .val (.long pw), .second, .val (.long pv), .second, .val (.int lw), .val (.int ii), .val (.int jj), .val (.int (0 : Int32)), .val (.ref b31), .val (.int z36), .val (.int cd), .unset, .unset, .unset, .unset, .unset, .unset] [(.ref b31), (.ref b40), (.ref b40)])) _
      refine XS.iload X40.here hx rfl (hb hby at_96) rfl ?_
      show Steps p.tables e below (T40.setTop (mkF m 98 #[.val (.int px), .val (.long pw), .second, .val (.long pv), .second, .val (.int lw), .val (.int ii), .val (.int jj), .val (.int (0 : Int32)), .val (.ref b31), .val (.int z36), .val (.int cd), .unset, .unset, .unset, .unset, .unset, .unset] [(.int cd), (.ref b31), (.ref b40), (.ref b40)])) _
      refine st41.trans ?_
      show Steps p.tables e below (T41.setTop (mkF m 101 #[.val (.int px), .val (.long pw), .second, .val (.long pv), .second, .val (.int lw), .val (.int ii), .val (.int jj), .val (.int (0 : Int32)), .val (.ref b31), .val (.int z36), .val (.int cd), .unset, .unset, .unset, .unset, .unset, .unset] [(.ref b40)])) _
      refine XS.astore X41.here hx rfl (hb hby at_101) rfl rfl (l' := #[.val (.int px), .val (.long pw), .second, .val (.long pv), .second, .val (.int lw), .val (.int ii), .val (.int jj), .val (.int (0 : Int32)), .val (.ref b31), .val (.int z36), .val (.int cd), .val (.ref b40), .unset, .unset, .unset, .unset, .unset]) rfl ?_
      show Steps p.tables e below (T41.setTop (mkF m 103 #[.val (.int px), .val (.long pw), .second, .val (.long pv), .second, .val (.int lw), .val (.int ii), .val (.int jj), .val (.int (0 : Int32)), .val (.ref b31), .val (.int z36), .val (.int cd), .val (.ref b40), .unset, .unset, .unset, .unset, .unset] [])) _
      refine XS.lconst X41.here hx rfl (hb hby at_103) ?_
      show Steps p.tables e below (T41.setTop (mkF m 104 #[.val (.int px), .val (.long pw), .second, .val (.long pv), .second, .val (.int lw), .val (.int ii), .val (.int jj), .val (.int (0 : Int32)), .val (.ref b31), .val (.int z36), .val (.int cd), .val (.ref b40), .unset, .unset, .unset, .unset, .unset] [(.long (1 : Int64))])) _
      refine XS.iload X41.here hx rfl (hb hby at_104) rfl ?_
      show Steps p.tables e below (T41.setTop (mkF m 106 #[.val (.int px), .val (.long pw), .second, .val (.long pv), .second, .val (.int lw), .val (.int ii), .val (.int jj), .val (.int (0 : Int32)), .val (.ref b31), .val (.int z36), .val (.int cd), .val (.ref b40), .unset, .unset, .unset, .unset, .unset] [(.int lw), (.long (1 : Int64))])) _
      refine XS.bipush X41.here hx rfl (hb hby at_106) ?_
      show Steps p.tables e below (T41.setTop (mkF m 108 #[.val (.int px), .val (.long pw), .second, .val (.long pv), .second, .val (.int lw), .val (.int ii), .val (.int jj), .val (.int (0 : Int32)), .val (.ref b31), .val (.int z36), .val (.int cd), .val (.ref b40), .unset, .unset, .unset, .unset, .unset] [(.int (63 : Int32)), (.int lw), (.long (1 : Int64))])) _
      refine XS.iand X41.here hx rfl (hb hby at_108) rfl ?_
      show Steps p.tables e below (T41.setTop (mkF m 109 #[.val (.int px), .val (.long pw), .second, .val (.long pv), .second, .val (.int lw), .val (.int ii), .val (.int jj), .val (.int (0 : Int32)), .val (.ref b31), .val (.int z36), .val (.int cd), .val (.ref b40), .unset, .unset, .unset, .unset, .unset] [(.int (lw &&& (63 : Int32))), (.long (1 : Int64))])) _
      refine XT.lshl X41.here hx rfl (hb hby at_109) rfl ?_
      show Steps p.tables e below (T41.setTop (mkF m 110 #[.val (.int px), .val (.long pw), .second, .val (.long pv), .second, .val (.int lw), .val (.int ii), .val (.int jj), .val (.int (0 : Int32)), .val (.ref b31), .val (.int z36), .val (.int cd), .val (.ref b40), .unset, .unset, .unset, .unset, .unset] [(.long ((1 : Int64) <<< ((lw &&& (63 : Int32)).toInt64 &&& 63)))])) _
      refine XS.lstore X41.here hx rfl (hb hby at_110) rfl (l' := #[.val (.int px), .val (.long pw), .second, .val (.long pv), .second, .val (.int lw), .val (.int ii), .val (.int jj), .val (.int (0 : Int32)), .val (.ref b31), .val (.int z36), .val (.int cd), .val (.ref b40), .val (.long ((1 : Int64) <<< ((lw &&& (63 : Int32)).toInt64 &&& 63))), .second, .unset, .unset, .unset]) rfl ?_
      show Steps p.tables e below (T41.setTop (mkF m 112 #[.val (.int px), .val (.long pw), .second, .val (.long pv), .second, .val (.int lw), .val (.int ii), .val (.int jj), .val (.int (0 : Int32)), .val (.ref b31), .val (.int z36), .val (.int cd), .val (.ref b40), .val (.long ((1 : Int64) <<< ((lw &&& (63 : Int32)).toInt64 &&& 63))), .second, .unset, .unset, .unset] [])) _
      refine XS.lloadN X41.here hx rfl (hb hby at_112) rfl ?_
      show Steps p.tables e below (T41.setTop (mkF m 113 #[.val (.int px), .val (.long pw), .second, .val (.long pv), .second, .val (.int lw), .val (.int ii), .val (.int jj), .val (.int (0 : Int32)), .val (.ref b31), .val (.int z36), .val (.int cd), .val (.ref b40), .val (.long ((1 : Int64) <<< ((lw &&& (63 : Int32)).toInt64 &&& 63))), .second, .unset, .unset, .unset] [(.long pw)])) _
      refine XS.iload X41.here hx rfl (hb hby at_113) rfl ?_
      show Steps p.tables e below (T41.setTop (mkF m 115 #[.val (.int px), .val (.long pw), .second, .val (.long pv), .second, .val (.int lw), .val (.int ii), .val (.int jj), .val (.int (0 : Int32)), .val (.ref b31), .val (.int z36), .val (.int cd), .val (.ref b40), .val (.long ((1 : Int64) <<< ((lw &&& (63 : Int32)).toInt64 &&& 63))), .second, .unset, .unset, .unset] [(.int lw), (.long pw)])) _
      refine XS.bipush X41.here hx rfl (hb hby at_115) ?_
      show Steps p.tables e below (T41.setTop (mkF m 117 #[.val (.int px), .val (.long pw), .second, .val (.long pv), .second, .val (.int lw), .val (.int ii), .val (.int jj), .val (.int (0 : Int32)), .val (.ref b31), .val (.int z36), .val (.int cd), .val (.ref b40), .val (.long ((1 : Int64) <<< ((lw &&& (63 : Int32)).toInt64 &&& 63))), .second, .unset, .unset, .unset] [(.int (63 : Int32)), (.int lw), (.long pw)])) _
      refine XS.iand X41.here hx rfl (hb hby at_117) rfl ?_
      show Steps p.tables e below (T41.setTop (mkF m 118 #[.val (.int px), .val (.long pw), .second, .val (.long pv), .second, .val (.int lw), .val (.int ii), .val (.int jj), .val (.int (0 : Int32)), .val (.ref b31), .val (.int z36), .val (.int cd), .val (.ref b40), .val (.long ((1 : Int64) <<< ((lw &&& (63 : Int32)).toInt64 &&& 63))), .second, .unset, .unset, .unset] [(.int (lw &&& (63 : Int32))), (.long pw)])) _
      refine XT.lushr X41.here hx rfl (hb hby at_118) rfl ?_
      show Steps p.tables e below (T41.setTop (mkF m 119 #[.val (.int px), .val (.long pw), .second, .val (.long pv), .second, .val (.int lw), .val (.int ii), .val (.int jj), .val (.int (0 : Int32)), .val (.ref b31), .val (.int z36), .val (.int cd), .val (.ref b40), .val (.long ((1 : Int64) <<< ((lw &&& (63 : Int32)).toInt64 &&& 63))), .second, .unset, .unset, .unset] [(.long (XT.ushrL pw (lw &&& (63 : Int32))))])) _
      refine XS.lconst X41.here hx rfl (hb hby at_119) ?_
      show Steps p.tables e below (T41.setTop (mkF m 120 #[.val (.int px), .val (.long pw), .second, .val (.long pv), .second, .val (.int lw), .val (.int ii), .val (.int jj), .val (.int (0 : Int32)), .val (.ref b31), .val (.int z36), .val (.int cd), .val (.ref b40), .val (.long ((1 : Int64) <<< ((lw &&& (63 : Int32)).toInt64 &&& 63))), .second, .unset, .unset, .unset] [(.long (1 : Int64)), (.long (XT.ushrL pw (lw &&& (63 : Int32))))])) _
      refine XS.land X41.here hx rfl (hb hby at_120) rfl ?_
      show Steps p.tables e below (T41.setTop (mkF m 121 #[.val (.int px), .val (.long pw), .second, .val (.long pv), .second, .val (.int lw), .val (.int ii), .val (.int jj), .val (.int (0 : Int32)), .val (.ref b31), .val (.int z36), .val (.int cd), .val (.ref b40), .val (.long ((1 : Int64) <<< ((lw &&& (63 : Int32)).toInt64 &&& 63))), .second, .unset, .unset, .unset] [(.long ((XT.ushrL pw (lw &&& (63 : Int32))) &&& (1 : Int64)))])) _
      refine XS.lconst X41.here hx rfl (hb hby at_121) ?_
      show Steps p.tables e below (T41.setTop (mkF m 122 #[.val (.int px), .val (.long pw), .second, .val (.long pv), .second, .val (.int lw), .val (.int ii), .val (.int jj), .val (.int (0 : Int32)), .val (.ref b31), .val (.int z36), .val (.int cd), .val (.ref b40), .val (.long ((1 : Int64) <<< ((lw &&& (63 : Int32)).toInt64 &&& 63))), .second, .unset, .unset, .unset] [(.long (0 : Int64)), (.long ((XT.ushrL pw (lw &&& (63 : Int32))) &&& (1 : Int64)))])) _
      refine XS.lcmp X41.here hx rfl (hb hby at_122) rfl ?_
      show Steps p.tables e below (T41.setTop (mkF m 123 #[.val (.int px), .val (.long pw), .second, .val (.long pv), .second, .val (.int lw), .val (.int ii), .val (.int jj), .val (.int (0 : Int32)), .val (.ref b31), .val (.int z36), .val (.int cd), .val (.ref b40), .val (.long ((1 : Int64) <<< ((lw &&& (63 : Int32)).toInt64 &&& 63))), .second, .unset, .unset, .unset] [(.int (lcmpW ((XT.ushrL pw (lw &&& (63 : Int32))) &&& (1 : Int64)) (0 : Int64)))])) _
      exact kt
    by_cases hc123_43 : (lcmpW ((XT.ushrL pw (lw &&& (63 : Int32))) &&& (1 : Int64)) (0 : Int64)) = (0 : Int32)
    · have hbw := own_bits pw _ _ ((1 : Int64) <<< (lw.toInt64 &&& 63)) (own_klt lw) (own_k64 lw) (own_k32 lw) rfl
      have hfw : f36 ((lw.toUInt32 >>> ((6 : Int32) &&& 31).toUInt32).toInt32).toNatClampNeg = pw := by rw [← h_ii]; exact hwi
      have hab := hbw.1 ((lw_eq _ _).mp hc123_43)
      obtain ⟨cq44, kq44, q44a, q44b, q44c⟩ := isOf hZ rfl A41c
      obtain ⟨_, _, ⟨T44, L44, k44, n44⟩, -, X44, ⟨Lc44, hQ44, l44, y44, z44⟩, st44⟩ := X41.virtualBack hx (y := (⟨"com/example/bitgrove/bitgrove/HeapBitmapContainer", "add", "(I)Lcom/example/bitgrove/bitgrove/Container;"⟩ : MethodName)) (z := (⟨"com/example/bitgrove/bitgrove/HeapBitmapContainer", "add", "(I)Lcom/example/bitgrove/bitgrove/Container;"⟩ : MethodName)) hown (mvT hZ (hw _ (List.mem_of_getElem? (i := 47) rfl))) (mvT hZ (hw _ (List.mem_of_getElem? (i := 48) rfl))) (notFace_of_selects (args := #[]) (mvT hZ (hw _ (List.mem_of_getElem? (i := 50) rfl)))) (mvT hZ (hw _ (List.mem_of_getElem? (i := 50) rfl))) (mvT hZ (hw _ (List.mem_of_getElem? (i := 49) rfl))) (by decide) (backOf (W := 0) (rm9y l Z a0 hw [] b40 lw b31 f36 cd T41.heap n0 (Nat.le_trans Z0 Kc41.1) A41c Fc0_41 Fc1_41 ((V36.ext E40).keep K41 (ninS ne_b31_b40 nin0)) g_b40 g_b31 (Ne.symm ne_b31_b40) (h_ii ▸ ri0) (h_ii ▸ ri1) (by rw [hfw, lw_eq]; exact hab.1)) hZ (hw _ (List.mem_of_getElem? (i := 51) rfl)) (hw _ (List.mem_of_getElem? (i := 27) rfl)) (by decide) (by decide)) q44a q44c (g := (mkF m 137 #[.val (.int px), .val (.long pw), .second, .val (.long pv), .second, .val (.int lw), .val (.int ii), .val (.int jj), .val (.int (0 : Int32)), .val (.ref b31), .val (.int z36), .val (.int cd), .val (.ref b40), .val (.long ((1 : Int64) <<< ((lw &&& (63 : Int32)).toInt64 &&& 63))), .second, .val (.int (1 : Int32)), .unset, .unset] [(.int lw), (.ref b40)])) rfl (by rw [hml]; rfl) (Steps.refl _) (argsL := [(.int lw)]) (rest := []) (lenOf pd_6 rfl) rfl (by show 2 * 0 + _ ≤ _; exact Nat.le_of_eq rfl) (hb hby at_137) (fun _ _ => ⟨rfl, rfl, (by decide : 2 + 0 ≤ _), (by decide : 1026 + 0 ≤ _)⟩)
      dsimp only [Pt.U, Pt.locs, Pt.cells, Pt.slots] at X44 l44 y44 z44 st44 hQ44
      subst l44 y44 z44
      obtain ⟨f44, rfl, N44q, K44, A44c, Fc0_44, Fc1_44, V44, hf44⟩ := hQ44
      have N44 := Fr.app N41 N44q
      have Kc44 : Keep h0 T44.heap [] := Kc41.trans K44 (allS (Or.inr sz_b40) (allS (Or.inr sz_b31) all0))
      have hni : f44 ii.toNatClampNeg = (pw ||| ((1 : Int64) <<< (lw.toInt64 &&& 63))) := by
        rw [hf44, ← h_ii, hwi]
        exact if_pos rfl
      have hnj : f44 jj.toNatClampNeg = pv := by
        rw [hf44, ← h_ii]
        show (if jj.toNatClampNeg = ii.toNatClampNeg then _ else f36 jj.toNatClampNeg) = pv
        rw [if_neg (by have := own_nat (j := ii) ri0; have := own_nat (j := jj) rj0; omega)]
        exact hvj
      obtain ⟨cq45, kq45, q45a, q45b, q45c⟩ := isOf hZ rfl A44c
      obtain ⟨_, _, ⟨T45, L45, k45, n45⟩, -, X45, ⟨Lc45, hQ45, l45, y45, z45⟩, st45⟩ := X44.virtualBack hx (y := (⟨"com/example/bitgrove/bitgrove/HeapBitmapContainer", "word", "(I)J"⟩ : MethodName)) (z := (⟨"com/example/bitgrove/bitgrove/HeapBitmapContainer", "word", "(I)J"⟩ : MethodName)) hown (mvT hZ (hw _ (List.mem_of_getElem? (i := 52) rfl))) (mvT hZ (hw _ (List.mem_of_getElem? (i := 53) rfl))) (notFace_of_selects (args := #[]) (mvT hZ (hw _ (List.mem_of_getElem? (i := 55) rfl)))) (mvT hZ (hw _ (List.mem_of_getElem? (i := 55) rfl))) (mvT hZ (hw _ (List.mem_of_getElem? (i := 54) rfl))) (by decide) (backOf (W := 0) (rm10 l Z a0 hw [] b40 jj b31 f44 T44.heap n0 (Nat.le_trans Z0 Kc44.1) Fc0_44 V44 rj0 rj1) hZ (hw _ (List.mem_of_getElem? (i := 56) rfl)) (hw _ (List.mem_of_getElem? (i := 27) rfl)) (by decide) (by decide)) q45a q45c (g := (mkF m 146 #[.val (.int px), .val (.long pw), .second, .val (.long pv), .second, .val (.int lw), .val (.int ii), .val (.int jj), .val (.int (0 : Int32)), .val (.ref b31), .val (.int z36), .val (.int cd), .val (.ref b40), .val (.long ((1 : Int64) <<< ((lw &&& (63 : Int32)).toInt64 &&& 63))), .second, .val (.int (1 : Int32)), .val (.ref b40), .unset] [(.int jj), (.ref b40)])) rfl (by rw [hml]; rfl) (Steps.refl _) (argsL := [(.int jj)]) (rest := []) (lenOf pd_3 rfl) rfl (by show 2 * 0 + _ ≤ _; exact Nat.le_of_eq rfl) (hb hby at_146) (fun _ _ => ⟨rfl, rfl, (by decide : 2 + 0 ≤ _), (by decide : 1026 + 0 ≤ _)⟩)
      dsimp only [Pt.U, Pt.locs, Pt.cells, Pt.slots] at X45 l45 y45 z45 st45 hQ45
      subst l45 y45 z45
      obtain ⟨rfl, N45q, e45⟩ := hQ45
      have N45 := Fr.app N44 N45q
      rw [hnj] at st45
      obtain ⟨cq46, kq46, q46a, q46b, q46c⟩ := isOf hZ e45 A44c
      obtain ⟨_, _, ⟨T46, L46, k46, n46⟩, -, X46, ⟨Lc46, hQ46, l46, y46, z46⟩, st46⟩ := X45.virtualBackUp hx (x := (⟨"com/example/bitgrove/bitgrove/HeapBitmapContainer", "contains", "(I)Z"⟩ : MethodName)) (y := (⟨"com/example/bitgrove/bitgrove/BitmapContainer", "contains", "(I)Z"⟩ : MethodName)) hown (mvT hZ (hw _ (List.mem_of_getElem? (i := 57) rfl))) (mvT hZ (hw _ (List.mem_of_getElem? (i := 58) rfl))) (mvT hZ (hw _ (List.mem_of_getElem? (i := 59) rfl))) (by decide) (mvT hZ (hw _ (List.mem_of_getElem? (i := 61) rfl))) (mvT hZ (hw _ (List.mem_of_getElem? (i := 60) rfl))) (backOf (W := 0) (rm11 l Z a0 hw [] b40 lw b31 f44 T44.heap n0 (Nat.le_trans Z0 Kc44.1) A44c Fc0_44 V44 (h_ii ▸ ri0) (h_ii ▸ ri1)) hZ (hw _ (List.mem_of_getElem? (i := 62) rfl)) (hw _ (List.mem_of_getElem? (i := 4) rfl)) (by decide) (by decide)) q46a q46c (g := (mkF m 158 #[.val (.int px), .val (.long pw), .second, .val (.long pv), .second, .val (.int lw), .val (.int ii), .val (.int jj), .val (.int (0 : Int32)), .val (.ref b31), .val (.int z36), .val (.int cd), .val (.ref b40), .val (.long ((1 : Int64) <<< ((lw &&& (63 : Int32)).toInt64 &&& 63))), .second, .val (.int (1 : Int32)), .val (.ref b40), .unset] [(.int lw), (.ref b40)])) rfl (by rw [hml]; rfl) (Steps.refl _) (argsL := [(.int lw)]) (rest := []) (lenOf pd_7 rfl) rfl (by show 2 * 0 + _ ≤ _; exact Nat.le_of_eq rfl) (hb hby at_158) (fun _ _ => ⟨rfl, e45, (by decide : 2 + 0 ≤ _), (by decide : 1026 + 0 ≤ _)⟩)
      dsimp only [Pt.U, Pt.locs, Pt.cells, Pt.slots] at X46 l46 y46 z46 st46 hQ46
      subst l46 y46 z46
      obtain ⟨rfl, N46q, e46⟩ := hQ46
      have N46 := Fr.app N45 N46q
      obtain ⟨cq47, kq47, q47a, q47b, q47c⟩ := isOf hZ e46 A44c
      obtain ⟨_, _, ⟨T47, L47, k47, n47⟩, -, X47, ⟨Lc47, hQ47, l47, y47, z47⟩, st47⟩ := X46.virtualBack hx (y := (⟨"com/example/bitgrove/bitgrove/HeapBitmapContainer", "word", "(I)J"⟩ : MethodName)) (z := (⟨"com/example/bitgrove/bitgrove/HeapBitmapContainer", "word", "(I)J"⟩ : MethodName)) hown (mvT hZ (hw _ (List.mem_of_getElem? (i := 52) rfl))) (mvT hZ (hw _ (List.mem_of_getElem? (i := 53) rfl))) (notFace_of_selects (args := #[]) (mvT hZ (hw _ (List.mem_of_getElem? (i := 55) rfl)))) (mvT hZ (hw _ (List.mem_of_getElem? (i := 55) rfl))) (mvT hZ (hw _ (List.mem_of_getElem? (i := 54) rfl))) (by decide) (backOf (W := 0) (rm10 l Z a0 hw [] b40 ii b31 f44 T44.heap n0 (Nat.le_trans Z0 Kc44.1) Fc0_44 V44 ri0 ri1) hZ (hw _ (List.mem_of_getElem? (i := 56) rfl)) (hw _ (List.mem_of_getElem? (i := 27) rfl)) (by decide) (by decide)) q47a q47c (g := (mkF m 192 #[.val (.int px), .val (.long pw), .second, .val (.long pv), .second, .val (.int lw), .val (.int ii), .val (.int jj), .val (.int (0 : Int32)), .val (.ref b31), .val (.int z36), .val (.int cd), .val (.ref b40), .val (.long ((1 : Int64) <<< ((lw &&& (63 : Int32)).toInt64 &&& 63))), .second, .val (.int (1 : Int32)), .val (.ref b40), .val (.int (1 : Int32))] [(.int ii), (.ref b40)])) rfl (by rw [hml]; rfl) (Steps.refl _) (argsL := [(.int ii)]) (rest := []) (lenOf pd_3 rfl) rfl (by show 2 * 0 + _ ≤ _; exact Nat.le_of_eq rfl) (hb hby at_192) (fun _ _ => ⟨rfl, e46, (by decide : 2 + 0 ≤ _), (by decide : 1026 + 0 ≤ _)⟩)
      dsimp only [Pt.U, Pt.locs, Pt.cells, Pt.slots] at X47 l47 y47 z47 st47 hQ47
      subst l47 y47 z47
      obtain ⟨rfl, N47q, e47⟩ := hQ47
      have N47 := Fr.app N46 N47q
      rw [hni] at st47
      obtain ⟨cq48, kq48, q48a, q48b, q48c⟩ := isOf hZ e47 A44c
      obtain ⟨_, _, ⟨T48, L48, k48, n48⟩, -, X48, ⟨Lc48, hQ48, l48, y48, z48⟩, st48⟩ := X47.virtualBack hx (y := (⟨"com/example/bitgrove/bitgrove/HeapBitmapContainer", "cardinality", "()I"⟩ : MethodName)) (z := (⟨"com/example/bitgrove/bitgrove/HeapBitmapContainer", "cardinality", "()I"⟩ : MethodName)) hown (mvT hZ (hw _ (List.mem_of_getElem? (i := 66) rfl))) (mvT hZ (hw _ (List.mem_of_getElem? (i := 67) rfl))) (notFace_of_selects (args := #[]) (mvT hZ (hw _ (List.mem_of_getElem? (i := 69) rfl)))) (mvT hZ (hw _ (List.mem_of_getElem? (i := 69) rfl))) (mvT hZ (hw _ (List.mem_of_getElem? (i := 68) rfl))) (by decide) (backOf (W := 0) (rm12 l Z a0 hw [] b40 (cd + (1 : Int32)) T44.heap n0 (Nat.le_trans Z0 Kc44.1) Fc1_44) hZ (hw _ (List.mem_of_getElem? (i := 70) rfl)) (hw _ (List.mem_of_getElem? (i := 27) rfl)) (by decide) (by decide)) q48a q48c (g := (mkF m 205 #[.val (.int px), .val (.long pw), .second, .val (.long pv), .second, .val (.int lw), .val (.int ii), .val (.int jj), .val (.int (0 : Int32)), .val (.ref b31), .val (.int z36), .val (.int cd), .val (.ref b40), .val (.long ((1 : Int64) <<< ((lw &&& (63 : Int32)).toInt64 &&& 63))), .second, .val (.int (1 : Int32)), .val (.ref b40), .val (.int (1 : Int32))] [(.ref b40)])) rfl (by rw [hml]; rfl) (Steps.refl _) (argsL := []) (rest := []) (lenOf pd_8 rfl) rfl (by show 2 * 0 + _ ≤ _; exact Nat.le_of_eq rfl) (hb hby at_205) (fun _ _ => ⟨rfl, e47, (by decide : 2 + 0 ≤ _), (by decide : 1026 + 0 ≤ _)⟩)
      dsimp only [Pt.U, Pt.locs, Pt.cells, Pt.slots] at X48 l48 y48 z48 st48 hQ48
      subst l48 y48 z48
      obtain ⟨rfl, N48q, e48⟩ := hQ48
      have N48 := Fr.app N47 N48q
      obtain ⟨fs, hr, hrun, hended, hW, hsame⟩ := X48.leave (v := some (.int (1 : Int32))) (fun h => by rw [Bd.returns] at h; cases h)
      refine ⟨_, _, pre42 _ ?_, hrun, hended, _, _, rfl, ?_, ⟨_, rfl⟩, hW, hsame.mono (by decide) (by decide)⟩
      · show Steps p.tables e below (T41.setTop (mkF m 123 #[.val (.int px), .val (.long pw), .second, .val (.long pv), .second, .val (.int lw), .val (.int ii), .val (.int jj), .val (.int (0 : Int32)), .val (.ref b31), .val (.int z36), .val (.int cd), .val (.ref b40), .val (.long ((1 : Int64) <<< ((lw &&& (63 : Int32)).toInt64 &&& 63))), .second, .unset, .unset, .unset] [(.int (lcmpW ((XT.ushrL pw (lw &&& (63 : Int32))) &&& (1 : Int64)) (0 : Int64)))])) _
        refine XS.ifNo X41.here hx rfl (hb hby at_123) rfl ((if0 _ _).trans (teq hc123_43).2) ?_
        show Steps p.tables e below (T41.setTop (mkF m 126 #[.val (.int px), .val (.long pw), .second, .val (.long pv), .second, .val (.int lw), .val (.int ii), .val (.int jj), .val (.int (0 : Int32)), .val (.ref b31), .val (.int z36), .val (.int cd), .val (.ref b40), .val (.long ((1 : Int64) <<< ((lw &&& (63 : Int32)).toInt64 &&& 63))), .second, .unset, .unset, .unset] [])) _
        refine XS.iconst X41.here hx rfl (hb hby at_126) ?_
        show Steps p.tables e below (T41.setTop (mkF m 127 #[.val (.int px), .val (.long pw), .second, .val (.long pv), .second, .val (.int lw), .val (.int ii), .val (.int jj), .val (.int (0 : Int32)), .val (.ref b31), .val (.int z36), .val (.int cd), .val (.ref b40), .val (.long ((1 : Int64) <<< ((lw &&& (63 : Int32)).toInt64 &&& 63))), .second, .unset, .unset, .unset] [(.int (1 : Int32))])) _
        refine XS.goto X41.here hx rfl (pc0 := 127) (pc' := 131) rfl (hb hby at_127) (by decide) (by decide) ?_
        show Steps p.tables e below (T41.setTop (mkF m 131 #[.val (.int px), .val (.long pw), .second, .val (.long pv), .second, .val (.int lw), .val (.int ii), .val (.int jj), .val (.int (0 : Int32)), .val (.ref b31), .val (.int z36), .val (.int cd), .val (.ref b40), .val (.long ((1 : Int64) <<< ((lw &&& (63 : Int32)).toInt64 &&& 63))), .second, .unset, .unset, .unset] [(.int (1 : Int32))])) _
        refine XS.istore X41.here hx rfl (hb hby at_131) rfl (l' := #[.val (.int px), .val (.long pw), .second, .val (.long pv), .second, .val (.int lw), .val (.int ii), .val (.int jj), .val (.int (0 : Int32)), .val (.ref b31), .val (.int z36), .val (.int cd), .val (.ref b40), .val (.long ((1 : Int64) <<< ((lw &&& (63 : Int32)).toInt64 &&& 63))), .second, .val (.int (1 : Int32)), .unset, .unset]) rfl ?_
        show Steps p.tables e below (T41.setTop (mkF m 133 #[.val (.int px), .val (.long pw), .second, .val (.long pv), .second, .val (.int lw), .val (.int ii), .val (.int jj), .val (.int (0 : Int32)), .val (.ref b31), .val (.int z36), .val (.int cd), .val (.ref b40), .val (.long ((1 : Int64) <<< ((lw &&& (63 : Int32)).toInt64 &&& 63))), .second, .val (.int (1 : Int32)), .unset, .unset] [])) _
        refine XS.aload X41.here hx rfl (hb hby at_133) rfl rfl ?_
        show Steps p.tables e below (T41.setTop (mkF m 135 #[.val (.int px), .val (.long pw), .second, .val (.long pv), .second, .val (.int lw), .val (.int ii), .val (.int jj), .val (.int (0 : Int32)), .val (.ref b31), .val (.int z36), .val (.int cd), .val (.ref b40), .val (.long ((1 : Int64) <<< ((lw &&& (63 : Int32)).toInt64 &&& 63))), .second, .val (.int (1 : Int32)), .unset, .unset] [(.ref b40)])) _
        refine XS.iload X41.here hx rfl (hb hby at_135) rfl ?_
        show Steps p.tables e below (T41.setTop (mkF m 137 #[.val (.int px), .val (.long pw), .second, .val (.long pv), .second, .val (.int lw), .val (.int ii), .val (.int jj), .val (.int (0 : Int32)), .val (.ref b31), .val (.int z36), .val (.int cd), .val (.ref b40), .val (.long ((1 : Int64) <<< ((lw &&& (63 : Int32)).toInt64 &&& 63))), .second, .val (.int (1 : Int32)), .unset, .unset] [(.int lw), (.ref b40)])) _
        refine st44.trans ?_
        show Steps p.tables e below (T44.setTop (mkF m 140 #[.val (.int px), .val (.long pw), .second, .val (.long pv), .second, .val (.int lw), .val (.int ii), .val (.int jj), .val (.int (0 : Int32)), .val (.ref b31), .val (.int z36), .val (.int cd), .val (.ref b40), .val (.long ((1 : Int64) <<< ((lw &&& (63 : Int32)).toInt64 &&& 63))), .second, .val (.int (1 : Int32)), .unset, .unset] [(.ref b40)])) _
        refine XS.astore X44.here hx rfl (hb hby at_140) rfl rfl (l' := #[.val (.int px), .val (.long pw), .second, .val (.long pv), .second, .val (.int lw), .val (.int ii), .val (.int jj), .val (.int (0 : Int32)), .val (.ref b31), .val (.int z36), .val (.int cd), .val (.ref b40), .val (.long ((1 : Int64) <<< ((lw &&& (63 : Int32)).toInt64 &&& 63))), .second, .val (.int (1 : Int32)), .val (.ref b40), .unset]) rfl ?_
        show Steps p.tables e below (T44.setTop (mkF m 142 #[.val (.int px), .val (.long pw), .second, .val (.long pv), .second, .val (.int lw), .val (.int ii), .val (.int jj), .val (.int (0 : Int32)), .val (.ref b31), .val (.int z36), .val (.int cd), .val (.ref b40), .val (.long ((1 : Int64) <<< ((lw &&& (63 : Int32)).toInt64 &&& 63))), .second, .val (.int (1 : Int32)), .val (.ref b40), .unset] [])) _
        refine XS.aload X44.here hx rfl (hb hby at_142) rfl rfl ?_
        show Steps p.tables e below (T44.setTop (mkF m 144 #[.val (.int px), .val (.long pw), .second, .val (.long pv), .second, .val (.int lw), .val (.int ii), .val (.int jj), .val (.int (0 : Int32)), .val (.ref b31), .val (.int z36), .val (.int cd), .val (.ref b40), .val (.long ((1 : Int64) <<< ((lw &&& (63 : Int32)).toInt64 &&& 63))), .second, .val (.int (1 : Int32)), .val (.ref b40), .unset] [(.ref b40)])) _
        refine XS.iload X44.here hx rfl (hb hby at_144) rfl ?_
        show Steps p.tables e below (T44.setTop (mkF m 146 #[.val (.int px), .val (.long pw), .second, .val (.long pv), .second, .val (.int lw), .val (.int ii), .val (.int jj), .val (.int (0 : Int32)), .val (.ref b31), .val (.int z36), .val (.int cd), .val (.ref b40), .val (.long ((1 : Int64) <<< ((lw &&& (63 : Int32)).toInt64 &&& 63))), .second, .val (.int (1 : Int32)), .val (.ref b40), .unset] [(.int jj), (.ref b40)])) _
        refine st45.trans ?_
        show Steps p.tables e below (T45.setTop (mkF m 149 #[.val (.int px), .val (.long pw), .second, .val (.long pv), .second, .val (.int lw), .val (.int ii), .val (.int jj), .val (.int (0 : Int32)), .val (.ref b31), .val (.int z36), .val (.int cd), .val (.ref b40), .val (.long ((1 : Int64) <<< ((lw &&& (63 : Int32)).toInt64 &&& 63))), .second, .val (.int (1 : Int32)), .val (.ref b40), .unset] [(.long pv)])) _
        refine XS.lloadN X45.here hx rfl (hb hby at_149) rfl ?_
        show Steps p.tables e below (T45.setTop (mkF m 150 #[.val (.int px), .val (.long pw), .second, .val (.long pv), .second, .val (.int lw), .val (.int ii), .val (.int jj), .val (.int (0 : Int32)), .val (.ref b31), .val (.int z36), .val (.int cd), .val (.ref b40), .val (.long ((1 : Int64) <<< ((lw &&& (63 : Int32)).toInt64 &&& 63))), .second, .val (.int (1 : Int32)), .val (.ref b40), .unset] [(.long pv), (.long pv)])) _
        refine XS.lcmp X45.here hx rfl (hb hby at_150) rfl ?_
        show Steps p.tables e below (T45.setTop (mkF m 151 #[.val (.int px), .val (.long pw), .second, .val (.long pv), .second, .val (.int lw), .val (.int ii), .val (.int jj), .val (.int (0 : Int32)), .val (.ref b31), .val (.int z36), .val (.int cd), .val (.ref b40), .val (.long ((1 : Int64) <<< ((lw &&& (63 : Int32)).toInt64 &&& 63))), .second, .val (.int (1 : Int32)), .val (.ref b40), .unset] [(.int (lcmpW pv pv))])) _
        refine XS.ifNo X45.here hx rfl (hb hby at_151) rfl ((if0 _ _).trans (teq ((lw_eq _ _).mpr rfl : (lcmpW pv pv) = (0 : Int32))).2) ?_
        show Steps p.tables e below (T45.setTop (mkF m 154 #[.val (.int px), .val (.long pw), .second, .val (.long pv), .second, .val (.int lw), .val (.int ii), .val (.int jj), .val (.int (0 : Int32)), .val (.ref b31), .val (.int z36), .val (.int cd), .val (.ref b40), .val (.long ((1 : Int64) <<< ((lw &&& (63 : Int32)).toInt64 &&& 63))), .second, .val (.int (1 : Int32)), .val (.ref b40), .unset] [])) _
        refine XS.aload X45.here hx rfl (hb hby at_154) rfl rfl ?_
        show Steps p.tables e below (T45.setTop (mkF m 156 #[.val (.int px), .val (.long pw), .second, .val (.long pv), .second, .val (.int lw), .val (.int ii), .val (.int jj), .val (.int (0 : Int32)), .val (.ref b31), .val (.int z36), .val (.int cd), .val (.ref b40), .val (.long ((1 : Int64) <<< ((lw &&& (63 : Int32)).toInt64 &&& 63))), .second, .val (.int (1 : Int32)), .val (.ref b40), .unset] [(.ref b40)])) _
        refine XS.iload X45.here hx rfl (hb hby at_156) rfl ?_
        show Steps p.tables e below (T45.setTop (mkF m 158 #[.val (.int px), .val (.long pw), .second, .val (.long pv), .second, .val (.int lw), .val (.int ii), .val (.int jj), .val (.int (0 : Int32)), .val (.ref b31), .val (.int z36), .val (.int cd), .val (.ref b40), .val (.long ((1 : Int64) <<< ((lw &&& (63 : Int32)).toInt64 &&& 63))), .second, .val (.int (1 : Int32)), .val (.ref b40), .unset] [(.int lw), (.ref b40)])) _
        refine st46.trans ?_
        show Steps p.tables e below (T46.setTop (mkF m 161 #[.val (.int px), .val (.long pw), .second, .val (.long pv), .second, .val (.int lw), .val (.int ii), .val (.int jj), .val (.int (0 : Int32)), .val (.ref b31), .val (.int z36), .val (.int cd), .val (.ref b40), .val (.long ((1 : Int64) <<< ((lw &&& (63 : Int32)).toInt64 &&& 63))), .second, .val (.int (1 : Int32)), .val (.ref b40), .unset] [(.int (contF lw f44))])) _
        refine XS.ifNo X46.here hx rfl (hb hby at_161) rfl ((if0 _ _).trans (feq (by unfold contF; rw [if_neg (show ¬ ((lcmpW (f44 ((lw.toUInt32 >>> ((6 : Int32) &&& 31).toUInt32).toInt32).toNatClampNeg &&& ((1 : Int64) <<< (lw.toInt64 &&& 63))) (0 : Int64)) = (0 : Int32)) from by rw [lw_eq, ← h_ii, hni]; exact hbw.2.2)]; decide : ¬ ((contF lw f44) = (0 : Int32)))).1) ?_
        show Steps p.tables e below (T46.setTop (mkF m 164 #[.val (.int px), .val (.long pw), .second, .val (.long pv), .second, .val (.int lw), .val (.int ii), .val (.int jj), .val (.int (0 : Int32)), .val (.ref b31), .val (.int z36), .val (.int cd), .val (.ref b40), .val (.long ((1 : Int64) <<< ((lw &&& (63 : Int32)).toInt64 &&& 63))), .second, .val (.int (1 : Int32)), .val (.ref b40), .unset] [])) _
        refine XS.iconst X46.here hx rfl (hb hby at_164) ?_
        show Steps p.tables e below (T46.setTop (mkF m 165 #[.val (.int px), .val (.long pw), .second, .val (.long pv), .second, .val (.int lw), .val (.int ii), .val (.int jj), .val (.int (0 : Int32)), .val (.ref b31), .val (.int z36), .val (.int cd), .val (.ref b40), .val (.long ((1 : Int64) <<< ((lw &&& (63 : Int32)).toInt64 &&& 63))), .second, .val (.int (1 : Int32)), .val (.ref b40), .unset] [(.int (1 : Int32))])) _
        refine XS.goto X46.here hx rfl (pc0 := 165) (pc' := 169) rfl (hb hby at_165) (by decide) (by decide) ?_
        show Steps p.tables e below (T46.setTop (mkF m 169 #[.val (.int px), .val (.long pw), .second, .val (.long pv), .second, .val (.int lw), .val (.int ii), .val (.int jj), .val (.int (0 : Int32)), .val (.ref b31), .val (.int z36), .val (.int cd), .val (.ref b40), .val (.long ((1 : Int64) <<< ((lw &&& (63 : Int32)).toInt64 &&& 63))), .second, .val (.int (1 : Int32)), .val (.ref b40), .unset] [(.int (1 : Int32))])) _
        refine XS.istore X46.here hx rfl (hb hby at_169) rfl (l' := #[.val (.int px), .val (.long pw), .second, .val (.long pv), .second, .val (.int lw), .val (.int ii), .val (.int jj), .val (.int (0 : Int32)), .val (.ref b31), .val (.int z36), .val (.int cd), .val (.ref b40), .val (.long ((1 : Int64) <<< ((lw &&& (63 : Int32)).toInt64 &&& 63))), .second, .val (.int (1 : Int32)), .val (.ref b40), .val (.int (1 : Int32))]) rfl ?_
        show Steps p.tables e below (T46.setTop (mkF m 171 #[.val (.int px), .val (.long pw), .second, .val (.long pv), .second, .val (.int lw), .val (.int ii), .val (.int jj), .val (.int (0 : Int32)), .val (.ref b31), .val (.int z36), .val (.int cd), .val (.ref b40), .val (.long ((1 : Int64) <<< ((lw &&& (63 : Int32)).toInt64 &&& 63))), .second, .val (.int (1 : Int32)), .val (.ref b40), .val (.int (1 : Int32))] [])) _
        refine XS.iload X46.here hx rfl (hb hby at_171) rfl ?_
        show Steps p.tables e below (T46.setTop (mkF m 173 #[.val (.int px), .val (.long pw), .second, .val (.long pv), .second, .val (.int lw), .val (.int ii), .val (.int jj), .val (.int (0 : Int32)), .val (.ref b31), .val (.int z36), .val (.int cd), .val (.ref b40), .val (.long ((1 : Int64) <<< ((lw &&& (63 : Int32)).toInt64 &&& 63))), .second, .val (.int (1 : Int32)), .val (.ref b40), .val (.int (1 : Int32))] [(.int (1 : Int32))])) _
        refine XS.ifNo X46.here hx rfl (hb hby at_173) rfl ((if0 _ _).trans (feq (by decide : ¬ ((1 : Int32) = (0 : Int32)))).1) ?_
        show Steps p.tables e below (T46.setTop (mkF m 176 #[.val (.int px), .val (.long pw), .second, .val (.long pv), .second, .val (.int lw), .val (.int ii), .val (.int jj), .val (.int (0 : Int32)), .val (.ref b31), .val (.int z36), .val (.int cd), .val (.ref b40), .val (.long ((1 : Int64) <<< ((lw &&& (63 : Int32)).toInt64 &&& 63))), .second, .val (.int (1 : Int32)), .val (.ref b40), .val (.int (1 : Int32))] [])) _
        refine XS.iload X46.here hx rfl (hb hby at_176) rfl ?_
        show Steps p.tables e below (T46.setTop (mkF m 178 #[.val (.int px), .val (.long pw), .second, .val (.long pv), .second, .val (.int lw), .val (.int ii), .val (.int jj), .val (.int (0 : Int32)), .val (.ref b31), .val (.int z36), .val (.int cd), .val (.ref b40), .val (.long ((1 : Int64) <<< ((lw &&& (63 : Int32)).toInt64 &&& 63))), .second, .val (.int (1 : Int32)), .val (.ref b40), .val (.int (1 : Int32))] [(.int (1 : Int32))])) _
        refine XS.ifNo X46.here hx rfl (hb hby at_178) rfl ((if0 _ _).trans (feq (by decide : ¬ ((1 : Int32) = (0 : Int32)))).1) ?_
        show Steps p.tables e below (T46.setTop (mkF m 181 #[.val (.int px), .val (.long pw), .second, .val (.long pv), .second, .val (.int lw), .val (.int ii), .val (.int jj), .val (.int (0 : Int32)), .val (.ref b31), .val (.int z36), .val (.int cd), .val (.ref b40), .val (.long ((1 : Int64) <<< ((lw &&& (63 : Int32)).toInt64 &&& 63))), .second, .val (.int (1 : Int32)), .val (.ref b40), .val (.int (1 : Int32))] [])) _
        refine XS.aload X46.here hx rfl (hb hby at_181) rfl rfl ?_
        show Steps p.tables e below (T46.setTop (mkF m 183 #[.val (.int px), .val (.long pw), .second, .val (.long pv), .second, .val (.int lw), .val (.int ii), .val (.int jj), .val (.int (0 : Int32)), .val (.ref b31), .val (.int z36), .val (.int cd), .val (.ref b40), .val (.long ((1 : Int64) <<< ((lw &&& (63 : Int32)).toInt64 &&& 63))), .second, .val (.int (1 : Int32)), .val (.ref b40), .val (.int (1 : Int32))] [(.ref b40)])) _
        refine XS.aload X46.here hx rfl (hb hby at_183) rfl rfl ?_
        show Steps p.tables e below (T46.setTop (mkF m 185 #[.val (.int px), .val (.long pw), .second, .val (.long pv), .second, .val (.int lw), .val (.int ii), .val (.int jj), .val (.int (0 : Int32)), .val (.ref b31), .val (.int z36), .val (.int cd), .val (.ref b40), .val (.long ((1 : Int64) <<< ((lw &&& (63 : Int32)).toInt64 &&& 63))), .second, .val (.int (1 : Int32)), .val (.ref b40), .val (.int (1 : Int32))] [(.ref b40), (.ref b40)])) _
        refine Jvm.RoadKit.acmp (g := (mkF m 185 #[.val (.int px), .val (.long pw), .second, .val (.long pv), .second, .val (.int lw), .val (.int ii), .val (.int jj), .val (.int (0 : Int32)), .val (.ref b31), .val (.int z36), .val (.int cd), .val (.ref b40), .val (.long ((1 : Int64) <<< ((lw &&& (63 : Int32)).toInt64 &&& 63))), .second, .val (.int (1 : Int32)), .val (.ref b40), .val (.int (1 : Int32))] [(.ref b40), (.ref b40)])) X46 hx rfl rfl rfl (pc0 := 185) (pc' := 188) (same := true) rfl (hb hby at_185) rfl (decide_eq_true rfl) (by decide) (by decide) ?_
        show Steps p.tables e below (T46.setTop (mkF m 188 #[.val (.int px), .val (.long pw), .second, .val (.long pv), .second, .val (.int lw), .val (.int ii), .val (.int jj), .val (.int (0 : Int32)), .val (.ref b31), .val (.int z36), .val (.int cd), .val (.ref b40), .val (.long ((1 : Int64) <<< ((lw &&& (63 : Int32)).toInt64 &&& 63))), .second, .val (.int (1 : Int32)), .val (.ref b40), .val (.int (1 : Int32))] [])) _
        refine XS.aload X46.here hx rfl (hb hby at_188) rfl rfl ?_
        show Steps p.tables e below (T46.setTop (mkF m 190 #[.val (.int px), .val (.long pw), .second, .val (.long pv), .second, .val (.int lw), .val (.int ii), .val (.int jj), .val (.int (0 : Int32)), .val (.ref b31), .val (.int z36), .val (.int cd), .val (.ref b40), .val (.long ((1 : Int64) <<< ((lw &&& (63 : Int32)).toInt64 &&& 63))), .second, .val (.int (1 : Int32)), .val (.ref b40), .val (.int (1 : Int32))] [(.ref b40)])) _
        refine XS.iload X46.here hx rfl (hb hby at_190) rfl ?_
        show Steps p.tables e below (T46.setTop (mkF m 192 #[.val (.int px), .val (.long pw), .second, .val (.long pv), .second, .val (.int lw), .val (.int ii), .val (.int jj), .val (.int (0 : Int32)), .val (.ref b31), .val (.int z36), .val (.int cd), .val (.ref b40), .val (.long ((1 : Int64) <<< ((lw &&& (63 : Int32)).toInt64 &&& 63))), .second, .val (.int (1 : Int32)), .val (.ref b40), .val (.int (1 : Int32))] [(.int ii), (.ref b40)])) _
        refine st47.trans ?_
        show Steps p.tables e below (T47.setTop (mkF m 195 #[.val (.int px), .val (.long pw), .second, .val (.long pv), .second, .val (.int lw), .val (.int ii), .val (.int jj), .val (.int (0 : Int32)), .val (.ref b31), .val (.int z36), .val (.int cd), .val (.ref b40), .val (.long ((1 : Int64) <<< ((lw &&& (63 : Int32)).toInt64 &&& 63))), .second, .val (.int (1 : Int32)), .val (.ref b40), .val (.int (1 : Int32))] [(.long (pw ||| ((1 : Int64) <<< (lw.toInt64 &&& 63))))])) _
        refine XS.lloadN X47.here hx rfl (hb hby at_195) rfl ?_
        show Steps p.tables e below (T47.setTop (mkF m 196 #[.val (.int px), .val (.long pw), .second, .val (.long pv), .second, .val (.int lw), .val (.int ii), .val (.int jj), .val (.int (0 : Int32)), .val (.ref b31), .val (.int z36), .val (.int cd), .val (.ref b40), .val (.long ((1 : Int64) <<< ((lw &&& (63 : Int32)).toInt64 &&& 63))), .second, .val (.int (1 : Int32)), .val (.ref b40), .val (.int (1 : Int32))] [(.long pw), (.long (pw ||| ((1 : Int64) <<< (lw.toInt64 &&& 63))))])) _
        refine XS.lload X47.here hx rfl (hb hby at_196) rfl ?_
        show Steps p.tables e below (T47.setTop (mkF m 198 #[.val (.int px), .val (.long pw), .second, .val (.long pv), .second, .val (.int lw), .val (.int ii), .val (.int jj), .val (.int (0 : Int32)), .val (.ref b31), .val (.int z36), .val (.int cd), .val (.ref b40), .val (.long ((1 : Int64) <<< ((lw &&& (63 : Int32)).toInt64 &&& 63))), .second, .val (.int (1 : Int32)), .val (.ref b40), .val (.int (1 : Int32))] [(.long ((1 : Int64) <<< ((lw &&& (63 : Int32)).toInt64 &&& 63))), (.long pw), (.long (pw ||| ((1 : Int64) <<< (lw.toInt64 &&& 63))))])) _
        refine XS.ladd X47.here hx rfl (hb hby at_198) rfl ?_
        show Steps p.tables e below (T47.setTop (mkF m 199 #[.val (.int px), .val (.long pw), .second, .val (.long pv), .second, .val (.int lw), .val (.int ii), .val (.int jj), .val (.int (0 : Int32)), .val (.ref b31), .val (.int z36), .val (.int cd), .val (.ref b40), .val (.long ((1 : Int64) <<< ((lw &&& (63 : Int32)).toInt64 &&& 63))), .second, .val (.int (1 : Int32)), .val (.ref b40), .val (.int (1 : Int32))] [(.long (pw + ((1 : Int64) <<< ((lw &&& (63 : Int32)).toInt64 &&& 63)))), (.long (pw ||| ((1 : Int64) <<< (lw.toInt64 &&& 63))))])) _
        refine XS.lcmp X47.here hx rfl (hb hby at_199) rfl ?_
        show Steps p.tables e below (T47.setTop (mkF m 200 #[.val (.int px), .val (.long pw), .second, .val (.long pv), .second, .val (.int lw), .val (.int ii), .val (.int jj), .val (.int (0 : Int32)), .val (.ref b31), .val (.int z36), .val (.int cd), .val (.ref b40), .val (.long ((1 : Int64) <<< ((lw &&& (63 : Int32)).toInt64 &&& 63))), .second, .val (.int (1 : Int32)), .val (.ref b40), .val (.int (1 : Int32))] [(.int (lcmpW (pw ||| ((1 : Int64) <<< (lw.toInt64 &&& 63))) (pw + ((1 : Int64) <<< ((lw &&& (63 : Int32)).toInt64 &&& 63)))))])) _
        refine XS.ifNo X47.here hx rfl (hb hby at_200) rfl ((if0 _ _).trans (teq ((lw_eq _ _).mpr (by rw [own_bit63 lw]; exact hab.2) : (lcmpW (pw ||| ((1 : Int64) <<< (lw.toInt64 &&& 63))) (pw + ((1 : Int64) <<< ((lw &&& (63 : Int32)).toInt64 &&& 63)))) = (0 : Int32))).2) ?_
        show Steps p.tables e below (T47.setTop (mkF m 203 #[.val (.int px), .val (.long pw), .second, .val (.long pv), .second, .val (.int lw), .val (.int ii), .val (.int jj), .val (.int (0 : Int32)), .val (.ref b31), .val (.int z36), .val (.int cd), .val (.ref b40), .val (.long ((1 : Int64) <<< ((lw &&& (63 : Int32)).toInt64 &&& 63))), .second, .val (.int (1 : Int32)), .val (.ref b40), .val (.int (1 : Int32))] [])) _
        refine XS.aload X47.here hx rfl (hb hby at_203) rfl rfl ?_
        show Steps p.tables e below (T47.setTop (mkF m 205 #[.val (.int px), .val (.long pw), .second, .val (.long pv), .second, .val (.int lw), .val (.int ii), .val (.int jj), .val (.int (0 : Int32)), .val (.ref b31), .val (.int z36), .val (.int cd), .val (.ref b40), .val (.long ((1 : Int64) <<< ((lw &&& (63 : Int32)).toInt64 &&& 63))), .second, .val (.int (1 : Int32)), .val (.ref b40), .val (.int (1 : Int32))] [(.ref b40)])) _
        refine st48.trans ?_
        show Steps p.tables e below (T48.setTop (mkF m 208 #[.val (.int px), .val (.long pw), .second, .val (.long pv), .second, .val (.int lw), .val (.int ii), .val (.int jj), .val (.int (0 : Int32)), .val (.ref b31), .val (.int z36), .val (.int cd), .val (.ref b40), .val (.long ((1 : Int64) <<< ((lw &&& (63 : Int32)).toInt64 &&& 63))), .second, .val (.int (1 : Int32)), .val (.ref b40), .val (.int (1 : Int32))] [(.int (cd + (1 : Int32)))])) _
        refine XS.iload X48.here hx rfl (hb hby at_208) rfl ?_
        show Steps p.tables e below (T48.setTop (mkF m 210 #[.val (.int px), .val (.long pw), .second, .val (.long pv), .second, .val (.int lw), .val (.int ii), .val (.int jj), .val (.int (0 : Int32)), .val (.ref b31), .val (.int z36), .val (.int cd), .val (.ref b40), .val (.long ((1 : Int64) <<< ((lw &&& (63 : Int32)).toInt64 &&& 63))), .second, .val (.int (1 : Int32)), .val (.ref b40), .val (.int (1 : Int32))] [(.int cd), (.int (cd + (1 : Int32)))])) _
        refine XS.iconst X48.here hx rfl (hb hby at_210) ?_
        show Steps p.tables e below (T48.setTop (mkF m 211 #[.val (.int px), .val (.long pw), .second, .val (.long pv), .second, .val (.int lw), .val (.int ii), .val (.int jj), .val (.int (0 : Int32)), .val (.ref b31), .val (.int z36), .val (.int cd), .val (.ref b40), .val (.long ((1 : Int64) <<< ((lw &&& (63 : Int32)).toInt64 &&& 63))), .second, .val (.int (1 : Int32)), .val (.ref b40), .val (.int (1 : Int32))] [(.int (1 : Int32)), (.int cd), (.int (cd + (1 : Int32)))])) _
        refine XS.iadd X48.here hx rfl (hb hby at_211) rfl ?_
        show Steps p.tables e below (T48.setTop (mkF m 212 #[.val (.int px), .val (.long pw), .second, .val (.long pv), .second, .val (.int lw), .val (.int ii), .val (.int jj), .val (.int (0 : Int32)), .val (.ref b31), .val (.int z36), .val (.int cd), .val (.ref b40), .val (.long ((1 : Int64) <<< ((lw &&& (63 : Int32)).toInt64 &&& 63))), .second, .val (.int (1 : Int32)), .val (.ref b40), .val (.int (1 : Int32))] [(.int (cd + (1 : Int32))), (.int (cd + (1 : Int32)))])) _
        refine XS.icmpNo X48.here hx rfl (hb hby at_212) rfl (teq (rfl : (cd + (1 : Int32)) = (cd + (1 : Int32)))).2 ?_
        show Steps p.tables e below (T48.setTop (mkF m 215 #[.val (.int px), .val (.long pw), .second, .val (.long pv), .second, .val (.int lw), .val (.int ii), .val (.int jj), .val (.int (0 : Int32)), .val (.ref b31), .val (.int z36), .val (.int cd), .val (.ref b40), .val (.long ((1 : Int64) <<< ((lw &&& (63 : Int32)).toInt64 &&& 63))), .second, .val (.int (1 : Int32)), .val (.ref b40), .val (.int (1 : Int32))] [])) _
        refine XS.iconst X48.here hx rfl (hb hby at_215) ?_
        show Steps p.tables e below (T48.setTop (mkF m 216 #[.val (.int px), .val (.long pw), .second, .val (.long pv), .second, .val (.int lw), .val (.int ii), .val (.int jj), .val (.int (0 : Int32)), .val (.ref b31), .val (.int z36), .val (.int cd), .val (.ref b40), .val (.long ((1 : Int64) <<< ((lw &&& (63 : Int32)).toInt64 &&& 63))), .second, .val (.int (1 : Int32)), .val (.ref b40), .val (.int (1 : Int32))] [(.int (1 : Int32))])) _
        refine XS.goto X48.here hx rfl (pc0 := 216) (pc' := 220) rfl (hb hby at_216) (by decide) (by decide) ?_
        show Steps p.tables e below (T48.setTop (mkF m 220 #[.val (.int px), .val (.long pw), .second, .val (.long pv), .second, .val (.int lw), .val (.int ii), .val (.int jj), .val (.int (0 : Int32)), .val (.ref b31), .val (.int z36), .val (.int cd), .val (.ref b40), .val (.long ((1 : Int64) <<< ((lw &&& (63 : Int32)).toInt64 &&& 63))), .second, .val (.int (1 : Int32)), .val (.ref b40), .val (.int (1 : Int32))] [(.int (1 : Int32))])) _
        refine XS.istore X48.here hx rfl (hb hby at_220) rfl (l' := #[.val (.int px), .val (.long pw), .second, .val (.long pv), .second, .val (.int lw), .val (.int ii), .val (.int jj), .val (.int (0 : Int32)), .val (.ref b31), .val (.int z36), .val (.int cd), .val (.ref b40), .val (.long ((1 : Int64) <<< ((lw &&& (63 : Int32)).toInt64 &&& 63))), .second, .val (.int (1 : Int32)), .val (.ref b40), .val (.int (1 : Int32))]) rfl ?_
        show Steps p.tables e below (T48.setTop (mkF m 222 #[.val (.int px), .val (.long pw), .second, .val (.long pv), .second, .val (.int lw), .val (.int ii), .val (.int jj), .val (.int (0 : Int32)), .val (.ref b31), .val (.int z36), .val (.int cd), .val (.ref b40), .val (.long ((1 : Int64) <<< ((lw &&& (63 : Int32)).toInt64 &&& 63))), .second, .val (.int (1 : Int32)), .val (.ref b40), .val (.int (1 : Int32))] [])) _
        refine XS.goto X48.here hx rfl (pc0 := 222) (pc' := 264) rfl (hb hby at_222) (by decide) (by decide) ?_
        show Steps p.tables e below (T48.setTop (mkF m 264 #[.val (.int px), .val (.long pw), .second, .val (.long pv), .second, .val (.int lw), .val (.int ii), .val (.int jj), .val (.int (0 : Int32)), .val (.ref b31), .val (.int z36), .val (.int cd), .val (.ref b40), .val (.long ((1 : Int64) <<< ((lw &&& (63 : Int32)).toInt64 &&& 63))), .second, .val (.int (1 : Int32)), .val (.ref b40), .val (.int (1 : Int32))] [])) _
        refine XS.iload X48.here hx rfl (hb hby at_264) rfl ?_
        show Steps p.tables e below (T48.setTop (mkF m 266 #[.val (.int px), .val (.long pw), .second, .val (.long pv), .second, .val (.int lw), .val (.int ii), .val (.int jj), .val (.int (0 : Int32)), .val (.ref b31), .val (.int z36), .val (.int cd), .val (.ref b40), .val (.long ((1 : Int64) <<< ((lw &&& (63 : Int32)).toInt64 &&& 63))), .second, .val (.int (1 : Int32)), .val (.ref b40), .val (.int (1 : Int32))] [(.int (1 : Int32))])) _
        exact retN X48 hx (t := .boolean) Bd.returns (by simp) (hb hby at_266) hr
      · show Q0 Z px pw pv h0 n0 _ T48.heap _
        rw [e48]
        exact ⟨rfl, N48⟩
    · have hbw := own_bits pw _ _ ((1 : Int64) <<< (lw.toInt64 &&& 63)) (own_klt lw) (own_k64 lw) (own_k32 lw) rfl
      have hfw : f36 ((lw.toUInt32 >>> ((6 : Int32) &&& 31).toUInt32).toInt32).toNatClampNeg = pw := by rw [← h_ii]; exact hwi
      have hab := hbw.2.1 (fun q => hc123_43 ((lw_eq _ _).mpr q))
      have hni := hwi
      have hnj := hvj
      obtain ⟨cq50, kq50, q50a, q50b, q50c⟩ := isOf hZ rfl A41c
      obtain ⟨_, _, ⟨T50, L50, k50, n50⟩, -, X50, ⟨Lc50, hQ50, l50, y50, z50⟩, st50⟩ := X41.virtualBack hx (y := (⟨"com/example/bitgrove/bitgrove/HeapBitmapContainer", "add", "(I)Lcom/example/bitgrove/bitgrove/Container;"⟩ : MethodName)) (z := (⟨"com/example/bitgrove/bitgrove/HeapBitmapContainer", "add", "(I)Lcom/example/bitgrove/bitgrove/Container;"⟩ : MethodName)) hown (mvT hZ (hw _ (List.mem_of_getElem? (i := 47) rfl))) (mvT hZ (hw _ (List.mem_of_getElem? (i := 48) rfl))) (notFace_of_selects (args := #[]) (mvT hZ (hw _ (List.mem_of_getElem? (i := 50) rfl)))) (mvT hZ (hw _ (List.mem_of_getElem? (i := 50) rfl))) (mvT hZ (hw _ (List.mem_of_getElem? (i := 49) rfl))) (by decide) (backOf (W := 0) (rm9n l Z a0 hw [] b40 lw b31 f36 cd T41.heap n0 (Nat.le_trans Z0 Kc41.1) A41c Fc0_41 Fc1_41 ((V36.ext E40).keep K41 (ninS ne_b31_b40 nin0)) g_b40 g_b31 (Ne.symm ne_b31_b40) (h_ii ▸ ri0) (h_ii ▸ ri1) (by rw [hfw, lw_eq]; exact hab.1)) hZ (hw _ (List.mem_of_getElem? (i := 51) rfl)) (hw _ (List.mem_of_getElem? (i := 27) rfl)) (by decide) (by decide)) q50a q50c (g := (mkF m 137 #[.val (.int px), .val (.long pw), .second, .val (.long pv), .second, .val (.int lw), .val (.int ii), .val (.int jj), .val (.int (0 : Int32)), .val (.ref b31), .val (.int z36), .val (.int cd), .val (.ref b40), .val (.long ((1 : Int64) <<< ((lw &&& (63 : Int32)).toInt64 &&& 63))), .second, .val (.int (0 : Int32)), .unset, .unset] [(.int lw), (.ref b40)])) rfl (by rw [hml]; rfl) (Steps.refl _) (argsL := [(.int lw)]) (rest := []) (lenOf pd_6 rfl) rfl (by show 2 * 0 + _ ≤ _; exact Nat.le_of_eq rfl) (hb hby at_137) (fun _ _ => ⟨rfl, rfl, (by decide : 2 + 0 ≤ _), (by decide : 1026 + 0 ≤ _)⟩)
      dsimp only [Pt.U, Pt.locs, Pt.cells, Pt.slots] at X50 l50 y50 z50 st50 hQ50
      subst l50 y50 z50
      obtain ⟨rfl, N50q, e50⟩ := hQ50
      have N50 := Fr.app N41 N50q
      obtain ⟨cq51, kq51, q51a, q51b, q51c⟩ := isOf hZ e50 A41c
      obtain ⟨_, _, ⟨T51, L51, k51, n51⟩, -, X51, ⟨Lc51, hQ51, l51, y51, z51⟩, st51⟩ := X50.virtualBack hx (y := (⟨"com/example/bitgrove/bitgrove/HeapBitmapContainer", "word", "(I)J"⟩ : MethodName)) (z := (⟨"com/example/bitgrove/bitgrove/HeapBitmapContainer", "word", "(I)J"⟩ : MethodName)) hown (mvT hZ (hw _ (List.mem_of_getElem? (i := 52) rfl))) (mvT hZ (hw _ (List.mem_of_getElem? (i := 53) rfl))) (notFace_of_selects (args := #[]) (mvT hZ (hw _ (List.mem_of_getElem? (i := 55) rfl)))) (mvT hZ (hw _ (List.mem_of_getElem? (i := 55) rfl))) (mvT hZ (hw _ (List.mem_of_getElem? (i := 54) rfl))) (by decide) (backOf (W := 0) (rm10 l Z a0 hw [] b40 jj b31 f36 T41.heap n0 (Nat.le_trans Z0 Kc41.1) Fc0_41 ((V36.ext E40).keep K41 (ninS ne_b31_b40 nin0)) rj0 rj1) hZ (hw _ (List.mem_of_getElem? (i := 56) rfl)) (hw _ (List.mem_of_getElem? (i := 27) rfl)) (by decide) (by decide)) q51a q51c (g := (mkF m 146 #[.val (.int px), .val (.long pw), .second, .val (.long pv), .second, .val (.int lw), .val (.int ii), .val (.int jj), .val (.int (0 : Int32)), .val (.ref b31), .val (.int z36), .val (.int cd), .val (.ref b40), .val (.long ((1 : Int64) <<< ((lw &&& (63 : Int32)).toInt64 &&& 63))), .second, .val (.int (0 : Int32)), .val .null, .unset] [(.int jj), (.ref b40)])) rfl (by rw [hml]; rfl) (Steps.refl _) (argsL := [(.int jj)]) (rest := []) (lenOf pd_3 rfl) rfl (by show 2 * 0 + _ ≤ _; exact Nat.le_of_eq rfl) (hb hby at_146) (fun _ _ => ⟨rfl, e50, (by decide : 2 + 0 ≤ _), (by decide : 1026 + 0 ≤ _)⟩)
      dsimp only [Pt.U, Pt.locs, Pt.cells, Pt.slots] at X51 l51 y51 z51 st51 hQ51
      subst l51 y51 z51
      obtain ⟨rfl, N51q, e51⟩ := hQ51
      have N51 := Fr.app N50 N51q
      rw [hnj] at st51
      obtain ⟨cq52, kq52, q52a, q52b, q52c⟩ := isOf hZ e51 A41c
      obtain ⟨_, _, ⟨T52, L52, k52, n52⟩, -, X52, ⟨Lc52, hQ52, l52, y52, z52⟩, st52⟩ := X51.virtualBackUp hx (x := (⟨"com/example/bitgrove/bitgrove/HeapBitmapContainer", "contains", "(I)Z"⟩ : MethodName)) (y := (⟨"com/example/bitgrove/bitgrove/BitmapContainer", "contains", "(I)Z"⟩ : MethodName)) hown (mvT hZ (hw _ (List.mem_of_getElem? (i := 57) rfl))) (mvT hZ (hw _ (List.mem_of_getElem? (i := 58) rfl))) (mvT hZ (hw _ (List.mem_of_getElem? (i := 59) rfl))) (by decide) (mvT hZ (hw _ (List.mem_of_getElem? (i := 61) rfl))) (mvT hZ (hw _ (List.mem_of_getElem? (i := 60) rfl))) (backOf (W := 0) (rm11 l Z a0 hw [] b40 lw b31 f36 T41.heap n0 (Nat.le_trans Z0 Kc41.1) A41c Fc0_41 ((V36.ext E40).keep K41 (ninS ne_b31_b40 nin0)) (h_ii ▸ ri0) (h_ii ▸ ri1)) hZ (hw _ (List.mem_of_getElem? (i := 62) rfl)) (hw _ (List.mem_of_getElem? (i := 4) rfl)) (by decide) (by decide)) q52a q52c (g := (mkF m 158 #[.val (.int px), .val (.long pw), .second, .val (.long pv), .second, .val (.int lw), .val (.int ii), .val (.int jj), .val (.int (0 : Int32)), .val (.ref b31), .val (.int z36), .val (.int cd), .val (.ref b40), .val (.long ((1 : Int64) <<< ((lw &&& (63 : Int32)).toInt64 &&& 63))), .second, .val (.int (0 : Int32)), .val .null, .unset] [(.int lw), (.ref b40)])) rfl (by rw [hml]; rfl) (Steps.refl _) (argsL := [(.int lw)]) (rest := []) (lenOf pd_7 rfl) rfl (by show 2 * 0 + _ ≤ _; exact Nat.le_of_eq rfl) (hb hby at_158) (fun _ _ => ⟨rfl, e51, (by decide : 2 + 0 ≤ _), (by decide : 1026 + 0 ≤ _)⟩)
      dsimp only [Pt.U, Pt.locs, Pt.cells, Pt.slots] at X52 l52 y52 z52 st52 hQ52
      subst l52 y52 z52
      obtain ⟨rfl, N52q, e52⟩ := hQ52
      have N52 := Fr.app N51 N52q
      obtain ⟨cq53, kq53, q53a, q53b, q53c⟩ := isOf hZ e52 A41c
      obtain ⟨_, _, ⟨T53, L53, k53, n53⟩, -, X53, ⟨Lc53, hQ53, l53, y53, z53⟩, st53⟩ := X52.virtualBack hx (y := (⟨"com/example/bitgrove/bitgrove/HeapBitmapContainer", "word", "(I)J"⟩ : MethodName)) (z := (⟨"com/example/bitgrove/bitgrove/HeapBitmapContainer", "word", "(I)J"⟩ : MethodName)) hown (mvT hZ (hw _ (List.mem_of_getElem? (i := 52) rfl))) (mvT hZ (hw _ (List.mem_of_getElem? (i := 53) rfl))) (notFace_of_selects (args := #[]) (mvT hZ (hw _ (List.mem_of_getElem? (i := 55) rfl)))) (mvT hZ (hw _ (List.mem_of_getElem? (i := 55) rfl))) (mvT hZ (hw _ (List.mem_of_getElem? (i := 54) rfl))) (by decide) (backOf (W := 0) (rm10 l Z a0 hw [] b40 ii b31 f36 T41.heap n0 (Nat.le_trans Z0 Kc41.1) Fc0_41 ((V36.ext E40).keep K41 (ninS ne_b31_b40 nin0)) ri0 ri1) hZ (hw _ (List.mem_of_getElem? (i := 56) rfl)) (hw _ (List.mem_of_getElem? (i := 27) rfl)) (by decide) (by decide)) q53a q53c (g := (mkF m 239 #[.val (.int px), .val (.long pw), .second, .val (.long pv), .second, .val (.int lw), .val (.int ii), .val (.int jj), .val (.int (0 : Int32)), .val (.ref b31), .val (.int z36), .val (.int cd), .val (.ref b40), .val (.long ((1 : Int64) <<< ((lw &&& (63 : Int32)).toInt64 &&& 63))), .second, .val (.int (0 : Int32)), .val .null, .val (.int (1 : Int32))] [(.int ii), (.ref b40)])) rfl (by rw [hml]; rfl) (Steps.refl _) (argsL := [(.int ii)]) (rest := []) (lenOf pd_3 rfl) rfl (by show 2 * 0 + _ ≤ _; exact Nat.le_of_eq rfl) (hb hby at_239) (fun _ _ => ⟨rfl, e52, (by decide : 2 + 0 ≤ _), (by decide : 1026 + 0 ≤ _)⟩)
      dsimp only [Pt.U, Pt.locs, Pt.cells, Pt.slots] at X53 l53 y53 z53 st53 hQ53
      subst l53 y53 z53
      obtain ⟨rfl, N53q, e53⟩ := hQ53
      have N53 := Fr.app N52 N53q
      rw [hni] at st53
      obtain ⟨cq54, kq54, q54a, q54b, q54c⟩ := isOf hZ e53 A41c
      obtain ⟨_, _, ⟨T54, L54, k54, n54⟩, -, X54, ⟨Lc54, hQ54, l54, y54, z54⟩, st54⟩ := X53.virtualBack hx (y := (⟨"com/example/bitgrove/bitgrove/HeapBitmapContainer", "cardinality", "()I"⟩ : MethodName)) (z := (⟨"com/example/bitgrove/bitgrove/HeapBitmapContainer", "cardinality", "()I"⟩ : MethodName)) hown (mvT hZ (hw _ (List.mem_of_getElem? (i := 66) rfl))) (mvT hZ (hw _ (List.mem_of_getElem? (i := 67) rfl))) (notFace_of_selects (args := #[]) (mvT hZ (hw _ (List.mem_of_getElem? (i := 69) rfl)))) (mvT hZ (hw _ (List.mem_of_getElem? (i := 69) rfl))) (mvT hZ (hw _ (List.mem_of_getElem? (i := 68) rfl))) (by decide) (backOf (W := 0) (rm12 l Z a0 hw [] b40 cd T41.heap n0 (Nat.le_trans Z0 Kc41.1) Fc1_41) hZ (hw _ (List.mem_of_getElem? (i := 70) rfl)) (hw _ (List.mem_of_getElem? (i := 27) rfl)) (by decide) (by decide)) q54a q54c (g := (mkF m 249 #[.val (.int px), .val (.long pw), .second, .val (.long pv), .second, .val (.int lw), .val (.int ii), .val (.int jj), .val (.int (0 : Int32)), .val (.ref b31), .val (.int z36), .val (.int cd), .val (.ref b40), .val (.long ((1 : Int64) <<< ((lw &&& (63 : Int32)).toInt64 &&& 63))), .second, .val (.int (0 : Int32)), .val .null, .val (.int (1 : Int32))] [(.ref b40)])) rfl (by rw [hml]; rfl) (Steps.refl _) (argsL := []) (rest := []) (lenOf pd_8 rfl) rfl (by show 2 * 0 + _ ≤ _; exact Nat.le_of_eq rfl) (hb hby at_249) (fun _ _ => ⟨rfl, e53, (by decide : 2 + 0 ≤ _), (by decide : 1026 + 0 ≤ _)⟩)
      dsimp only [Pt.U, Pt.locs, Pt.cells, Pt.slots] at X54 l54 y54 z54 st54 hQ54
      subst l54 y54 z54
      obtain ⟨rfl, N54q, e54⟩ := hQ54
      have N54 := Fr.app N53 N54q
      obtain ⟨fs, hr, hrun, hended, hW, hsame⟩ := X54.leave (v := some (.int (1 : Int32))) (fun h => by rw [Bd.returns] at h; cases h)
      refine ⟨_, _, pre42 _ ?_, hrun, hended, _, _, rfl, ?_, ⟨_, rfl⟩, hW, hsame.mono (by decide) (by decide)⟩
      · show Steps p.tables e below (T41.setTop (mkF m 123 #[.val (.int px), .val (.long pw), .second, .val (.long pv), .second, .val (.int lw), .val (.int ii), .val (.int jj), .val (.int (0 : Int32)), .val (.ref b31), .val (.int z36), .val (.int cd), .val (.ref b40), .val (.long ((1 : Int64) <<< ((lw &&& (63 : Int32)).toInt64 &&& 63))), .second, .unset, .unset, .unset] [(.int (lcmpW ((XT.ushrL pw (lw &&& (63 : Int32))) &&& (1 : Int64)) (0 : Int64)))])) _
        refine XS.ifYes X41.here hx rfl (pc0 := 123) (pc' := 130) rfl (hb hby at_123) rfl ((if0 _ _).trans (feq hc123_43).2) (by decide) (by decide) ?_
        show Steps p.tables e below (T41.setTop (mkF m 130 #[.val (.int px), .val (.long pw), .second, .val (.long pv), .second, .val (.int lw), .val (.int ii), .val (.int jj), .val (.int (0 : Int32)), .val (.ref b31), .val (.int z36), .val (.int cd), .val (.ref b40), .val (.long ((1 : Int64) <<< ((lw &&& (63 : Int32)).toInt64 &&& 63))), .second, .unset, .unset, .unset] [])) _
        refine XS.iconst X41.here hx rfl (hb hby at_130) ?_
        show Steps p.tables e below (T41.setTop (mkF m 131 #[.val (.int px), .val (.long pw), .second, .val (.long pv), .second, .val (.int lw), .val (.int ii), .val (.int jj), .val (.int (0 : Int32)), .val (.ref b31), .val (.int z36), .val (.int cd), .val (.ref b40), .val (.long ((1 : Int64) <<< ((lw &&& (63 : Int32)).toInt64 &&& 63))), .second, .unset, .unset, .unset] [(.int (0 : Int32))])) _
        refine XS.istore X41.here hx rfl (hb hby at_131) rfl (l' := #[.val (.int px), .val (.long pw), .second, .val (.long pv), .second, .val (.int lw), .val (.int ii), .val (.int jj), .val (.int (0 : Int32)), .val (.ref b31), .val (.int z36), .val (.int cd), .val (.ref b40), .val (.long ((1 : Int64) <<< ((lw &&& (63 : Int32)).toInt64 &&& 63))), .second, .val (.int (0 : Int32)), .unset, .unset]) rfl ?_
        show Steps p.tables e below (T41.setTop (mkF m 133 #[.val (.int px), .val (.long pw), .second, .val (.long pv), .second, .val (.int lw), .val (.int ii), .val (.int jj), .val (.int (0 : Int32)), .val (.ref b31), .val (.int z36), .val (.int cd), .val (.ref b40), .val (.long ((1 : Int64) <<< ((lw &&& (63 : Int32)).toInt64 &&& 63))), .second, .val (.int (0 : Int32)), .unset, .unset] [])) _
        refine XS.aload X41.here hx rfl (hb hby at_133) rfl rfl ?_
        show Steps p.tables e below (T41.setTop (mkF m 135 #[.val (.int px), .val (.long pw), .second, .val (.long pv), .second, .val (.int lw), .val (.int ii), .val (.int jj), .val (.int (0 : Int32)), .val (.ref b31), .val (.int z36), .val (.int cd), .val (.ref b40), .val (.long ((1 : Int64) <<< ((lw &&& (63 : Int32)).toInt64 &&& 63))), .second, .val (.int (0 : Int32)), .unset, .unset] [(.ref b40)])) _
        refine XS.iload X41.here hx rfl (hb hby at_135) rfl ?_
        show Steps p.tables e below (T41.setTop (mkF m 137 #[.val (.int px), .val (.long pw), .second, .val (.long pv), .second, .val (.int lw), .val (.int ii), .val (.int jj), .val (.int (0 : Int32)), .val (.ref b31), .val (.int z36), .val (.int cd), .val (.ref b40), .val (.long ((1 : Int64) <<< ((lw &&& (63 : Int32)).toInt64 &&& 63))), .second, .val (.int (0 : Int32)), .unset, .unset] [(.int lw), (.ref b40)])) _
        refine st50.trans ?_
        show Steps p.tables e below (T50.setTop (mkF m 140 #[.val (.int px), .val (.long pw), .second, .val (.long pv), .second, .val (.int lw), .val (.int ii), .val (.int jj), .val (.int (0 : Int32)), .val (.ref b31), .val (.int z36), .val (.int cd), .val (.ref b40), .val (.long ((1 : Int64) <<< ((lw &&& (63 : Int32)).toInt64 &&& 63))), .second, .val (.int (0 : Int32)), .unset, .unset] [.null])) _
        refine XS.astore X50.here hx rfl (hb hby at_140) rfl rfl (l' := #[.val (.int px), .val (.long pw), .second, .val (.long pv), .second, .val (.int lw), .val (.int ii), .val (.int jj), .val (.int (0 : Int32)), .val (.ref b31), .val (.int z36), .val (.int cd), .val (.ref b40), .val (.long ((1 : Int64) <<< ((lw &&& (63 : Int32)).toInt64 &&& 63))), .second, .val (.int (0 : Int32)), .val .null, .unset]) rfl ?_
        show Steps p.tables e below (T50.setTop (mkF m 142 #[.val (.int px), .val (.long pw), .second, .val (.long pv), .second, .val (.int lw), .val (.int ii), .val (.int jj), .val (.int (0 : Int32)), .val (.ref b31), .val (.int z36), .val (.int cd), .val (.ref b40), .val (.long ((1 : Int64) <<< ((lw &&& (63 : Int32)).toInt64 &&& 63))), .second, .val (.int (0 : Int32)), .val .null, .unset] [])) _
        refine XS.aload X50.here hx rfl (hb hby at_142) rfl rfl ?_
        show Steps p.tables e below (T50.setTop (mkF m 144 #[.val (.int px), .val (.long pw), .second, .val (.long pv), .second, .val (.int lw), .val (.int ii), .val (.int jj), .val (.int (0 : Int32)), .val (.ref b31), .val (.int z36), .val (.int cd), .val (.ref b40), .val (.long ((1 : Int64) <<< ((lw &&& (63 : Int32)).toInt64 &&& 63))), .second, .val (.int (0 : Int32)), .val .null, .unset] [(.ref b40)])) _
        refine XS.iload X50.here hx rfl (hb hby at_144) rfl ?_
        show Steps p.tables e below (T50.setTop (mkF m 146 #[.val (.int px), .val (.long pw), .second, .val (.long pv), .second, .val (.int lw), .val (.int ii), .val (.int jj), .val (.int (0 : Int32)), .val (.ref b31), .val (.int z36), .val (.int cd), .val (.ref b40), .val (.long ((1 : Int64) <<< ((lw &&& (63 : Int32)).toInt64 &&& 63))), .second, .val (.int (0 : Int32)), .val .null, .unset] [(.int jj), (.ref b40)])) _
        refine st51.trans ?_
        show Steps p.tables e below (T51.setTop (mkF m 149 #[.val (.int px), .val (.long pw), .second, .val (.long pv), .second, .val (.int lw), .val (.int ii), .val (.int jj), .val (.int (0 : Int32)), .val (.ref b31), .val (.int z36), .val (.int cd), .val (.ref b40), .val (.long ((1 : Int64) <<< ((lw &&& (63 : Int32)).toInt64 &&& 63))), .second, .val (.int (0 : Int32)), .val .null, .unset] [(.long pv)])) _
        refine XS.lloadN X51.here hx rfl (hb hby at_149) rfl ?_
        show Steps p.tables e below (T51.setTop (mkF m 150 #[.val (.int px), .val (.long pw), .second, .val (.long pv), .second, .val (.int lw), .val (.int ii), .val (.int jj), .val (.int (0 : Int32)), .val (.ref b31), .val (.int z36), .val (.int cd), .val (.ref b40), .val (.long ((1 : Int64) <<< ((lw &&& (63 : Int32)).toInt64 &&& 63))), .second, .val (.int (0 : Int32)), .val .null, .unset] [(.long pv), (.long pv)])) _
        refine XS.lcmp X51.here hx rfl (hb hby at_150) rfl ?_
        show Steps p.tables e below (T51.setTop (mkF m 151 #[.val (.int px), .val (.long pw), .second, .val (.long pv), .second, .val (.int lw), .val (.int ii), .val (.int jj), .val (.int (0 : Int32)), .val (.ref b31), .val (.int z36), .val (.int cd), .val (.ref b40), .val (.long ((1 : Int64) <<< ((lw &&& (63 : Int32)).toInt64 &&& 63))), .second, .val (.int (0 : Int32)), .val .null, .unset] [(.int (lcmpW pv pv))])) _
        refine XS.ifNo X51.here hx rfl (hb hby at_151) rfl ((if0 _ _).trans (teq ((lw_eq _ _).mpr rfl : (lcmpW pv pv) = (0 : Int32))).2) ?_
        show Steps p.tables e below (T51.setTop (mkF m 154 #[.val (.int px), .val (.long pw), .second, .val (.long pv), .second, .val (.int lw), .val (.int ii), .val (.int jj), .val (.int (0 : Int32)), .val (.ref b31), .val (.int z36), .val (.int cd), .val (.ref b40), .val (.long ((1 : Int64) <<< ((lw &&& (63 : Int32)).toInt64 &&& 63))), .second, .val (.int (0 : Int32)), .val .null, .unset] [])) _
        refine XS.aload X51.here hx rfl (hb hby at_154) rfl rfl ?_
        show Steps p.tables e below (T51.setTop (mkF m 156 #[.val (.int px), .val (.long pw), .second, .val (.long pv), .second, .val (.int lw), .val (.int ii), .val (.int jj), .val (.int (0 : Int32)), .val (.ref b31), .val (.int z36), .val (.int cd), .val (.ref b40), .val (.long ((1 : Int64) <<< ((lw &&& (63 : Int32)).toInt64 &&& 63))), .second, .val (.int (0 : Int32)), .val .null, .unset] [(.ref b40)])) _
        refine XS.iload X51.here hx rfl (hb hby at_156) rfl ?_
        show Steps p.tables e below (T51.setTop (mkF m 158 #[.val (.int px), .val (.long pw), .second, .val (.long pv), .second, .val (.int lw), .val (.int ii), .val (.int jj), .val (.int (0 : Int32)), .val (.ref b31), .val (.int z36), .val (.int cd), .val (.ref b40), .val (.long ((1 : Int64) <<< ((lw &&& (63 : Int32)).toInt64 &&& 63))), .second, .val (.int (0 : Int32)), .val .null, .unset] [(.int lw), (.ref b40)])) _
        refine st52.trans ?_
        show Steps p.tables e below (T52.setTop (mkF m 161 #[.val (.int px), .val (.long pw), .second, .val (.long pv), .second, .val (.int lw), .val (.int ii), .val (.int jj), .val (.int (0 : Int32)), .val (.ref b31), .val (.int z36), .val (.int cd), .val (.ref b40), .val (.long ((1 : Int64) <<< ((lw &&& (63 : Int32)).toInt64 &&& 63))), .second, .val (.int (0 : Int32)), .val .null, .unset] [(.int (contF lw f36))])) _
        refine XS.ifNo X52.here hx rfl (hb hby at_161) rfl ((if0 _ _).trans (feq (by unfold contF; rw [if_neg (show ¬ ((lcmpW (f36 ((lw.toUInt32 >>> ((6 : Int32) &&& 31).toUInt32).toInt32).toNatClampNeg &&& ((1 : Int64) <<< (lw.toInt64 &&& 63))) (0 : Int64)) = (0 : Int32)) from by rw [lw_eq, ← h_ii, hni]; exact hab.2)]; decide : ¬ ((contF lw f36) = (0 : Int32)))).1) ?_
        show Steps p.tables e below (T52.setTop (mkF m 164 #[.val (.int px), .val (.long pw), .second, .val (.long pv), .second, .val (.int lw), .val (.int ii), .val (.int jj), .val (.int (0 : Int32)), .val (.ref b31), .val (.int z36), .val (.int cd), .val (.ref b40), .val (.long ((1 : Int64) <<< ((lw &&& (63 : Int32)).toInt64 &&& 63))), .second, .val (.int (0 : Int32)), .val .null, .unset] [])) _
        refine XS.iconst X52.here hx rfl (hb hby at_164) ?_
        show Steps p.tables e below (T52.setTop (mkF m 165 #[.val (.int px), .val (.long pw), .second, .val (.long pv), .second, .val (.int lw), .val (.int ii), .val (.int jj), .val (.int (0 : Int32)), .val (.ref b31), .val (.int z36), .val (.int cd), .val (.ref b40), .val (.long ((1 : Int64) <<< ((lw &&& (63 : Int32)).toInt64 &&& 63))), .second, .val (.int (0 : Int32)), .val .null, .unset] [(.int (1 : Int32))])) _
        refine XS.goto X52.here hx rfl (pc0 := 165) (pc' := 169) rfl (hb hby at_165) (by decide) (by decide) ?_
        show Steps p.tables e below (T52.setTop (mkF m 169 #[.val (.int px), .val (.long pw), .second, .val (.long pv), .second, .val (.int lw), .val (.int ii), .val (.int jj), .val (.int (0 : Int32)), .val (.ref b31), .val (.int z36), .val (.int cd), .val (.ref b40), .val (.long ((1 : Int64) <<< ((lw &&& (63 : Int32)).toInt64 &&& 63))), .second, .val (.int (0 : Int32)), .val .null, .unset] [(.int (1 : Int32))])) _
        refine XS.istore X52.here hx rfl (hb hby at_169) rfl (l' := #[.val (.int px), .val (.long pw), .second, .val (.long pv), .second, .val (.int lw), .val (.int ii), .val (.int jj), .val (.int (0 : Int32)), .val (.ref b31), .val (.int z36), .val (.int cd), .val (.ref b40), .val (.long ((1 : Int64) <<< ((lw &&& (63 : Int32)).toInt64 &&& 63))), .second, .val (.int (0 : Int32)), .val .null, .val (.int (1 : Int32))]) rfl ?_
        show Steps p.tables e below (T52.setTop (mkF m 171 #[.val (.int px), .val (.long pw), .second, .val (.long pv), .second, .val (.int lw), .val (.int ii), .val (.int jj), .val (.int (0 : Int32)), .val (.ref b31), .val (.int z36), .val (.int cd), .val (.ref b40), .val (.long ((1 : Int64) <<< ((lw &&& (63 : Int32)).toInt64 &&& 63))), .second, .val (.int (0 : Int32)), .val .null, .val (.int (1 : Int32))] [])) _
        refine XS.iload X52.here hx rfl (hb hby at_171) rfl ?_
        show Steps p.tables e below (T52.setTop (mkF m 173 #[.val (.int px), .val (.long pw), .second, .val (.long pv), .second, .val (.int lw), .val (.int ii), .val (.int jj), .val (.int (0 : Int32)), .val (.ref b31), .val (.int z36), .val (.int cd), .val (.ref b40), .val (.long ((1 : Int64) <<< ((lw &&& (63 : Int32)).toInt64 &&& 63))), .second, .val (.int (0 : Int32)), .val .null, .val (.int (1 : Int32))] [(.int (0 : Int32))])) _
        refine XS.ifYes X52.here hx rfl (pc0 := 173) (pc' := 225) rfl (hb hby at_173) rfl ((if0 _ _).trans (teq (rfl : (0 : Int32) = (0 : Int32))).1) (by decide) (by decide) ?_
        show Steps p.tables e below (T52.setTop (mkF m 225 #[.val (.int px), .val (.long pw), .second, .val (.long pv), .second, .val (.int lw), .val (.int ii), .val (.int jj), .val (.int (0 : Int32)), .val (.ref b31), .val (.int z36), .val (.int cd), .val (.ref b40), .val (.long ((1 : Int64) <<< ((lw &&& (63 : Int32)).toInt64 &&& 63))), .second, .val (.int (0 : Int32)), .val .null, .val (.int (1 : Int32))] [])) _
        refine XS.iload X52.here hx rfl (hb hby at_225) rfl ?_
        show Steps p.tables e below (T52.setTop (mkF m 227 #[.val (.int px), .val (.long pw), .second, .val (.long pv), .second, .val (.int lw), .val (.int ii), .val (.int jj), .val (.int (0 : Int32)), .val (.ref b31), .val (.int z36), .val (.int cd), .val (.ref b40), .val (.long ((1 : Int64) <<< ((lw &&& (63 : Int32)).toInt64 &&& 63))), .second, .val (.int (0 : Int32)), .val .null, .val (.int (1 : Int32))] [(.int (1 : Int32))])) _
        refine XS.ifNo X52.here hx rfl (hb hby at_227) rfl ((if0 _ _).trans (feq (by decide : ¬ ((1 : Int32) = (0 : Int32)))).1) ?_
        show Steps p.tables e below (T52.setTop (mkF m 230 #[.val (.int px), .val (.long pw), .second, .val (.long pv), .second, .val (.int lw), .val (.int ii), .val (.int jj), .val (.int (0 : Int32)), .val (.ref b31), .val (.int z36), .val (.int cd), .val (.ref b40), .val (.long ((1 : Int64) <<< ((lw &&& (63 : Int32)).toInt64 &&& 63))), .second, .val (.int (0 : Int32)), .val .null, .val (.int (1 : Int32))] [])) _
        refine XS.aload X52.here hx rfl (hb hby at_230) rfl rfl ?_
        show Steps p.tables e below (T52.setTop (mkF m 232 #[.val (.int px), .val (.long pw), .second, .val (.long pv), .second, .val (.int lw), .val (.int ii), .val (.int jj), .val (.int (0 : Int32)), .val (.ref b31), .val (.int z36), .val (.int cd), .val (.ref b40), .val (.long ((1 : Int64) <<< ((lw &&& (63 : Int32)).toInt64 &&& 63))), .second, .val (.int (0 : Int32)), .val .null, .val (.int (1 : Int32))] [.null])) _
        refine XS.ifnonnullNo X52.here hx rfl (hb hby at_232) rfl ?_
        show Steps p.tables e below (T52.setTop (mkF m 235 #[.val (.int px), .val (.long pw), .second, .val (.long pv), .second, .val (.int lw), .val (.int ii), .val (.int jj), .val (.int (0 : Int32)), .val (.ref b31), .val (.int z36), .val (.int cd), .val (.ref b40), .val (.long ((1 : Int64) <<< ((lw &&& (63 : Int32)).toInt64 &&& 63))), .second, .val (.int (0 : Int32)), .val .null, .val (.int (1 : Int32))] [])) _
        refine XS.aload X52.here hx rfl (hb hby at_235) rfl rfl ?_
        show Steps p.tables e below (T52.setTop (mkF m 237 #[.val (.int px), .val (.long pw), .second, .val (.long pv), .second, .val (.int lw), .val (.int ii), .val (.int jj), .val (.int (0 : Int32)), .val (.ref b31), .val (.int z36), .val (.int cd), .val (.ref b40), .val (.long ((1 : Int64) <<< ((lw &&& (63 : Int32)).toInt64 &&& 63))), .second, .val (.int (0 : Int32)), .val .null, .val (.int (1 : Int32))] [(.ref b40)])) _
        refine XS.iload X52.here hx rfl (hb hby at_237) rfl ?_
        show Steps p.tables e below (T52.setTop (mkF m 239 #[.val (.int px), .val (.long pw), .second, .val (.long pv), .second, .val (.int lw), .val (.int ii), .val (.int jj), .val (.int (0 : Int32)), .val (.ref b31), .val (.int z36), .val (.int cd), .val (.ref b40), .val (.long ((1 : Int64) <<< ((lw &&& (63 : Int32)).toInt64 &&& 63))), .second, .val (.int (0 : Int32)), .val .null, .val (.int (1 : Int32))] [(.int ii), (.ref b40)])) _
        refine st53.trans ?_
        show Steps p.tables e below (T53.setTop (mkF m 242 #[.val (.int px), .val (.long pw), .second, .val (.long pv), .second, .val (.int lw), .val (.int ii), .val (.int jj), .val (.int (0 : Int32)), .val (.ref b31), .val (.int z36), .val (.int cd), .val (.ref b40), .val (.long ((1 : Int64) <<< ((lw &&& (63 : Int32)).toInt64 &&& 63))), .second, .val (.int (0 : Int32)), .val .null, .val (.int (1 : Int32))] [(.long pw)])) _
        refine XS.lloadN X53.here hx rfl (hb hby at_242) rfl ?_
        show Steps p.tables e below (T53.setTop (mkF m 243 #[.val (.int px), .val (.long pw), .second, .val (.long pv), .second, .val (.int lw), .val (.int ii), .val (.int jj), .val (.int (0 : Int32)), .val (.ref b31), .val (.int z36), .val (.int cd), .val (.ref b40), .val (.long ((1 : Int64) <<< ((lw &&& (63 : Int32)).toInt64 &&& 63))), .second, .val (.int (0 : Int32)), .val .null, .val (.int (1 : Int32))] [(.long pw), (.long pw)])) _
        refine XS.lcmp X53.here hx rfl (hb hby at_243) rfl ?_
        show Steps p.tables e below (T53.setTop (mkF m 244 #[.val (.int px), .val (.long pw), .second, .val (.long pv), .second, .val (.int lw), .val (.int ii), .val (.int jj), .val (.int (0 : Int32)), .val (.ref b31), .val (.int z36), .val (.int cd), .val (.ref b40), .val (.long ((1 : Int64) <<< ((lw &&& (63 : Int32)).toInt64 &&& 63))), .second, .val (.int (0 : Int32)), .val .null, .val (.int (1 : Int32))] [(.int (lcmpW pw pw))])) _
        refine XS.ifNo X53.here hx rfl (hb hby at_244) rfl ((if0 _ _).trans (teq ((lw_eq _ _).mpr rfl : (lcmpW pw pw) = (0 : Int32))).2) ?_
        show Steps p.tables e below (T53.setTop (mkF m 247 #[.val (.int px), .val (.long pw), .second, .val (.long pv), .second, .val (.int lw), .val (.int ii), .val (.int jj), .val (.int (0 : Int32)), .val (.ref b31), .val (.int z36), .val (.int cd), .val (.ref b40), .val (.long ((1 : Int64) <<< ((lw &&& (63 : Int32)).toInt64 &&& 63))), .second, .val (.int (0 : Int32)), .val .null, .val (.int (1 : Int32))] [])) _
        refine XS.aload X53.here hx rfl (hb hby at_247) rfl rfl ?_
        show Steps p.tables e below (T53.setTop (mkF m 249 #[.val (.int px), .val (.long pw), .second, .val (.long pv), .second, .val (.int lw), .val (.int ii), .val (.int jj), .val (.int (0 : Int32)), .val (.ref b31), .val (.int z36), .val (.int cd), .val (.ref b40), .val (.long ((1 : Int64) <<< ((lw &&& (63 : Int32)).toInt64 &&& 63))), .second, .val (.int (0 : Int32)), .val .null, .val (.int (1 : Int32))] [(.ref b40)])) _
        refine st54.trans ?_
        show Steps p.tables e below (T54.setTop (mkF m 252 #[.val (.int px), .val (.long pw), .second, .val (.long pv), .second, .val (.int lw), .val (.int ii), .val (.int jj), .val (.int (0 : Int32)), .val (.ref b31), .val (.int z36), .val (.int cd), .val (.ref b40), .val (.long ((1 : Int64) <<< ((lw &&& (63 : Int32)).toInt64 &&& 63))), .second, .val (.int (0 : Int32)), .val .null, .val (.int (1 : Int32))] [(.int cd)])) _
        refine XS.iload X54.here hx rfl (hb hby at_252) rfl ?_
        show Steps p.tables e below (T54.setTop (mkF m 254 #[.val (.int px), .val (.long pw), .second, .val (.long pv), .second, .val (.int lw), .val (.int ii), .val (.int jj), .val (.int (0 : Int32)), .val (.ref b31), .val (.int z36), .val (.int cd), .val (.ref b40), .val (.long ((1 : Int64) <<< ((lw &&& (63 : Int32)).toInt64 &&& 63))), .second, .val (.int (0 : Int32)), .val .null, .val (.int (1 : Int32))] [(.int cd), (.int cd)])) _
        refine XS.icmpNo X54.here hx rfl (hb hby at_254) rfl (teq (rfl : cd = cd)).2 ?_
        show Steps p.tables e below (T54.setTop (mkF m 257 #[.val (.int px), .val (.long pw), .second, .val (.long pv), .second, .val (.int lw), .val (.int ii), .val (.int jj), .val (.int (0 : Int32)), .val (.ref b31), .val (.int z36), .val (.int cd), .val (.ref b40), .val (.long ((1 : Int64) <<< ((lw &&& (63 : Int32)).toInt64 &&& 63))), .second, .val (.int (0 : Int32)), .val .null, .val (.int (1 : Int32))] [])) _
        refine XS.iconst X54.here hx rfl (hb hby at_257) ?_
        show Steps p.tables e below (T54.setTop (mkF m 258 #[.val (.int px), .val (.long pw), .second, .val (.long pv), .second, .val (.int lw), .val (.int ii), .val (.int jj), .val (.int (0 : Int32)), .val (.ref b31), .val (.int z36), .val (.int cd), .val (.ref b40), .val (.long ((1 : Int64) <<< ((lw &&& (63 : Int32)).toInt64 &&& 63))), .second, .val (.int (0 : Int32)), .val .null, .val (.int (1 : Int32))] [(.int (1 : Int32))])) _
        refine XS.goto X54.here hx rfl (pc0 := 258) (pc' := 262) rfl (hb hby at_258) (by decide) (by decide) ?_
        show Steps p.tables e below (T54.setTop (mkF m 262 #[.val (.int px), .val (.long pw), .second, .val (.long pv), .second, .val (.int lw), .val (.int ii), .val (.int jj), .val (.int (0 : Int32)), .val (.ref b31), .val (.int z36), .val (.int cd), .val (.ref b40), .val (.long ((1 : Int64) <<< ((lw &&& (63 : Int32)).toInt64 &&& 63))), .second, .val (.int (0 : Int32)), .val .null, .val (.int (1 : Int32))] [(.int (1 : Int32))])) _
        refine XS.istore X54.here hx rfl (hb hby at_262) rfl (l' := #[.val (.int px), .val (.long pw), .second, .val (.long pv), .second, .val (.int lw), .val (.int ii), .val (.int jj), .val (.int (0 : Int32)), .val (.ref b31), .val (.int z36), .val (.int cd), .val (.ref b40), .val (.long ((1 : Int64) <<< ((lw &&& (63 : Int32)).toInt64 &&& 63))), .second, .val (.int (0 : Int32)), .val .null, .val (.int (1 : Int32))]) rfl ?_
        show Steps p.tables e below (T54.setTop (mkF m 264 #[.val (.int px), .val (.long pw), .second, .val (.long pv), .second, .val (.int lw), .val (.int ii), .val (.int jj), .val (.int (0 : Int32)), .val (.ref b31), .val (.int z36), .val (.int cd), .val (.ref b40), .val (.long ((1 : Int64) <<< ((lw &&& (63 : Int32)).toInt64 &&& 63))), .second, .val (.int (0 : Int32)), .val .null, .val (.int (1 : Int32))] [])) _
        refine XS.iload X54.here hx rfl (hb hby at_264) rfl ?_
        show Steps p.tables e below (T54.setTop (mkF m 266 #[.val (.int px), .val (.long pw), .second, .val (.long pv), .second, .val (.int lw), .val (.int ii), .val (.int jj), .val (.int (0 : Int32)), .val (.ref b31), .val (.int z36), .val (.int cd), .val (.ref b40), .val (.long ((1 : Int64) <<< ((lw &&& (63 : Int32)).toInt64 &&& 63))), .second, .val (.int (0 : Int32)), .val .null, .val (.int (1 : Int32))] [(.int (1 : Int32))])) _
        exact retN X54 hx (t := .boolean) Bd.returns (by simp) (hb hby at_266) hr
      · show Q0 Z px pw pv h0 n0 _ T54.heap _
        rw [e54]
        exact ⟨rfl, N54⟩
set_option maxRecDepth 65536 in
set_option maxHeartbeats 40000000 in
theorem comes_1 {Post : Tables → Env → Array Value → State → Outcome → State → Prop} (hpost : ∀ tb e args s v u, (limb_1_1.after args s (.returned v) u = true ∧ limb_1_2.after args s (.returned v) u = true ∧ True) → FrameEnd s (.returned v) u (Jvm.fieldLocs frame_1_writes args s ++ Jvm.arrayLocs frame_1_arrays args s ++ Jvm.staticLocs frame_1_statics s) 16 2176 → Post tb e args s (.returned v) u) :
    ArmFor flags0 classFile x code maxLocals ret World_1 tables_1 room_1 Calls_1 rest_1 Pre_1 Post := by
  intro l hfl _ _ p e ha hc hk s m args below hf hA hF happ hP
  obtain ⟨hcalls, hrest, hpre⟩ := hP
  obtain ⟨-, -, -, hnamed, -, -, -, hat⟩ := (Spec.applies_iff hf).mp happ
  obtain ⟨hg, hn⟩ := and_e (Cond.before_iff.mp (show (Jvm.Cond.and given_1 narrow_1).before args s = true from hpre))
  obtain ⟨g1, g2⟩ := and_e hg
  obtain ⟨g3, g4⟩ := and_e g2
  obtain ⟨g5, g6⟩ := and_e g4
  obtain ⟨w0, w1, w2, rfl⟩ : ∃ w0 w1 w2 : Value, args = #[w0, w1, w2] := by
    have hs : args.size = 3 := by simpa [Cond.value, given_1] using g1
    obtain ⟨L⟩ := args
    match L, hs with
    | [w0, w1, w2], _ => exact ⟨w0, w1, w2, rfl⟩
  have hw := fun d (hd : d ∈ tables_1) => atoms_spec (ws := Jvm.Cond.code x code maxLocals ret :: tables_1) hat d (List.mem_cons_of_mem _ hd)
  have hfit : Fit s := fun {y c} hc i hi => by
    obtain ⟨ha, rfl⟩ := Array.getElem?_eq_some_iff.mp hc
    have q := List.all_eq_true.mp ((Array.all_eq_true_iff_forall_mem.mp hF) _ (Array.getElem_mem ha)) i (List.mem_range.mpr hi)
    simpa [Array.getElem?_eq_getElem hi] using q
  obtain ⟨i0, ei0⟩ := is_v g3
  obtain rfl : w0 = (.int i0) := Option.some.inj ei0
  obtain ⟨i1, ei1⟩ := isL_v g5
  obtain rfl : w1 = (.long i1) := Option.some.inj ei1
  obtain ⟨i2, ei2⟩ := isL_v g6
  obtain rfl : w2 = (.long i2) := Option.some.inj ei2
  obtain ⟨n, o, h1, h2, h3, _, L, rfl, ⟨rfl, N⟩, hq⟩ := rm0 l s _ hw tables_1 i0 i1 i2 s.heap s.heap.size (Nat.le_refl _)  p e ha hc hk s m _ below hf ((Spec.applies_iff_loose hf).mp happ).1 ⟨rfl, State.Warmed39.refl s, rfl⟩ trivial
  refine ⟨n, _, h1, h2, h3, hpost _ _ _ _ _ _ ⟨Cond.after_iff.mpr rfl, Cond.after_iff.mpr (eq_i res_at (Term.int_eval (1)) rfl), trivial⟩ ⟨hq.1, hq.2.1, (hq.2.2.sift fun y hy => Or.inr (N y hy)).mono (by decide) (by decide)⟩⟩
theorem main_1_1 : Claimed_1_1 := comes_1 fun _ _ _ _ _ _ h hF => ⟨h.1, hF⟩
theorem main_1_2 : Claimed_1_2 := comes_1 fun _ _ _ _ _ _ h hF => ⟨h.2.1, hF⟩
end Jvm.Pilot.@@N@@
namespace Jvm.Pilot.@@N@@
open Jvm Jvm.ClassFile Sem Op Lib Jvm.Free Jvm.Stand Jvm.Pilot.@@N@@.Jvm.D
/-! MADE BY PROGRAM (witnessworld.py) out of the Statement's table words and the real class files: 18 classes; the members and pool entries that the words name. The judged class is class 1, her method 1. -/
namespace start1
open Jvm.ClassFile
def u (s : String) : CpInfo := .utf8 (stringToUtf16 s)
/-- a pool by its gaps: so many unusable entries, then the entry; so many at the end -/
def gap : Nat → List CpInfo → List CpInfo
  | 0, r => r
  | n + 1, r => .unusable :: gap n r
def poolList (es : List (Nat × CpInfo)) (last : Nat) : List CpInfo := es.foldr (fun e r => gap e.1 (e.2 :: r)) (gap last [])
def pool (es : List (Nat × CpInfo)) (last : Nat) : Array CpInfo := ⟨poolList es last⟩
def fileOf (pool : Array CpInfo) (this : Nat) (attrs : Array Attribute := #[]) (ms : Array MethodInfo := #[]) (fl : Nat := 33) (sup : Nat := 0) (ifs : Array Nat := #[]) (fds : Array FieldInfo := #[]) : ClassFile where
  minorVersion := 0
  majorVersion := 65
  constantPool := pool
  accessFlags := fl
  thisClass := this
  superClass := sup
  interfaces := ifs
  fields := fds
  methods := ms
  attributes := attrs
def plain (name : String) (sup : Option ClassId) : Class where
  name := name
  kind := .ordinary
  loader := none
  accessFlags := 33
  super := sup
  interfaces := #[]
  cf := none
  fields := #[]
  methods := #[]
  instanceTypes := #[]
  staticTypes := #[]
  resolved := #[]
  callSites := []
  init := .initialized
  statics := none
  mirror := none

def pool0 : Array CpInfo := pool [(5, u "<init>"), (0, u "()V"), (1, .class_ 10), (1, u "java/lang/Object")] 113

def k0c0 : Code := { maxStack := 0, maxLocals := 1, code := object_method_1_code, exceptionTable := #[], attributes := #[] }
def k0m0 : Method := { name := "<init>", desc := "()V", sig := { parameters := [], returnType := none }, accessFlags := 1, code := some k0c0 }
/-- java/lang/Object -/
def k0 : Class := { plain "java/lang/Object" none with
  accessFlags := 33
  interfaces := #[]
  cf := some (fileOf pool0 8 #[] #[{ accessFlags := 1, nameIndex := 5, descriptorIndex := 6, attributes := #[] }] 33 0 #[] #[])
  fields := #[]
  methods := #[k0m0]
  instanceTypes := #[]
  staticTypes := #[]
  resolved := Array.replicate 124 none
  statics := none }

def pool1 : Array CpInfo := pool [(2, .class_ 4), (1, u "java/lang/Object"), (0, u "<init>"), (0, u "()V"), (0, .integer 65535), (0, .methodref 9 10), (0, .class_ 11), (0, .nameAndType 12 13), (0, u "com/example/bitgrove/bitgrove/BitmapContainer"), (0, u "setRange"), (0, u "([JII)I"), (0, .methodref 15 16), (0, .class_ 17), (0, .nameAndType 18 19), (0, u "com/example/bitgrove/bitgrove/HeapBitmapContainerAddPinLaw"), (0, u "pop"), (0, u "(J)I"), (0, .class_ 21), (0, u "com/example/bitgrove/bitgrove/HeapBitmapContainer"), (0, .methodref 20 23), (0, .nameAndType 5 24), (0, u "([JI)V"), (0, .methodref 20 26), (0, .nameAndType 27 28), (0, u "add"), (0, u "(I)Lcom/example/bitgrove/bitgrove/Container;"), (0, .methodref 20 30), (0, .nameAndType 31 32), (0, u "word"), (0, u "(I)J"), (0, .methodref 20 34), (0, .nameAndType 35 36), (0, u "contains"), (0, u "(I)Z"), (0, .methodref 20 38), (0, .nameAndType 39 40), (0, u "cardinality"), (0, u "()I"), (0, .long 6148914691236517205), (1, .long 3689348814741910323), (1, .long 1085102592571150095), (1, .long 72340172838076673), (3, u "law"), (0, u "(IJJ)Z")] 7

def k1m0 : Method := { name := "<init>", desc := "()V", sig := { parameters := [], returnType := none }, accessFlags := 1, code := none }
def k1c1 : Code := { maxStack := 6, maxLocals := 18, code := code, exceptionTable := #[], attributes := #[] }
def k1m1 : Method := { name := "law", desc := "(IJJ)Z", sig := { parameters := [.int, .long, .long], returnType := some .boolean }, accessFlags := 9, code := some k1c1 }
def k1c2 : Code := { maxStack := 6, maxLocals := 4, code := method_3_code, exceptionTable := #[], attributes := #[] }
def k1m2 : Method := { name := "pop", desc := "(J)I", sig := { parameters := [.long], returnType := some .int }, accessFlags := 10, code := some k1c2 }
/-- com/example/bitgrove/bitgrove/HeapBitmapContainerAddPinLaw -/
def k1 : Class := { plain "com/example/bitgrove/bitgrove/HeapBitmapContainerAddPinLaw" (some 0) with
  accessFlags := 49
  interfaces := #[]
  cf := some (fileOf pool1 15 #[] #[{ accessFlags := 1, nameIndex := 5, descriptorIndex := 6, attributes := #[] }, { accessFlags := 9, nameIndex := 51, descriptorIndex := 52, attributes := #[] }, { accessFlags := 10, nameIndex := 18, descriptorIndex := 19, attributes := #[] }] 49 2 #[] #[])
  fields := #[]
  methods := #[k1m0, k1m1, k1m2]
  instanceTypes := #[]
  staticTypes := #[]
  resolved := Array.replicate 60 none
  statics := none }

def pool2 : Array CpInfo := pool [(1, .methodref 2 3), (0, .class_ 4), (0, .nameAndType 5 6), (0, u "java/lang/Object"), (0, u "<init>"), (0, u "()V"), (7, .class_ 16), (1, u "com/example/bitgrove/bitgrove/Container"), (10, .class_ 29), (1, u "com/example/bitgrove/bitgrove/Container$LowIterator"), (146, u "NO_VALUES"), (0, u "[C"), (14, u "ARRAY_MAX"), (0, u "I"), (2, u "LOW_END"), (0, u "GATHERED_MAX"), (1, u "MERGED_MAX"), (1, u "BLOCK")] 44

def k2c0 : Code := { maxStack := 1, maxLocals := 1, code := prog_20_method_1_code, exceptionTable := #[], attributes := #[] }
def k2m0 : Method := { name := "<init>", desc := "()V", sig := { parameters := [], returnType := none }, accessFlags := 0, code := some k2c0 }
/-- com/example/bitgrove/bitgrove/Container -/
def k2 : Class := { plain "com/example/bitgrove/bitgrove/Container" (some 0) with
  accessFlags := 1056
  interfaces := #[]
  cf := some (fileOf pool2 14 #[.nestMembers #[27]] #[{ accessFlags := 0, nameIndex := 5, descriptorIndex := 6, attributes := #[] }] 1056 2 #[] #[{ accessFlags := 24, nameIndex := 192, descriptorIndex := 193, attributes := #[] }, { accessFlags := 24, nameIndex := 196, descriptorIndex := 193, attributes := #[] }, { accessFlags := 24, nameIndex := 197, descriptorIndex := 193, attributes := #[] }, { accessFlags := 24, nameIndex := 199, descriptorIndex := 193, attributes := #[] }, { accessFlags := 24, nameIndex := 176, descriptorIndex := 177, attributes := #[] }, { accessFlags := 26, nameIndex := 201, descriptorIndex := 193, attributes := #[] }])
  fields := #[{ name := "ARRAY_MAX", type := .int, accessFlags := 24, slot := 0, constantValue := 0 }, { name := "LOW_END", type := .int, accessFlags := 24, slot := 1, constantValue := 0 }, { name := "GATHERED_MAX", type := .int, accessFlags := 24, slot := 2, constantValue := 0 }, { name := "MERGED_MAX", type := .int, accessFlags := 24, slot := 3, constantValue := 0 }, { name := "NO_VALUES", type := (.array .char), accessFlags := 24, slot := 4, constantValue := 0 }, { name := "BLOCK", type := .int, accessFlags := 26, slot := 5, constantValue := 0 }]
  methods := #[k2m0]
  instanceTypes := #[]
  staticTypes := #[.int, .int, .int, .int, (.array .char), .int]
  resolved := Array.replicate 246 none
  statics := none }

def pool3 : Array CpInfo := pool [(1, .class_ 2), (0, u "com/example/bitgrove/bitgrove/Container"), (0, .class_ 4), (0, u "java/lang/Long"), (0, .class_ 6), (0, u "com/example/bitgrove/bitgrove/BitmapContainer"), (0, .methodref 1 8), (0, .nameAndType 9 10), (0, u "<init>"), (0, u "()V"), (0, .methodref 5 12), (0, .nameAndType 13 14), (0, u "word"), (0, u "(I)J"), (0, .methodref 5 16), (0, .nameAndType 17 18), (0, u "rangeMask"), (0, u "(III)J"), (0, .methodref 3 20), (0, .nameAndType 21 22), (0, u "bitCount"), (0, u "(J)I"), (8, .long 18446744073709551615), (8, .class_ 41), (0, u "com/example/bitgrove/bitgrove/BitmapContainer$1"), (3, .class_ 46), (0, u "com/example/bitgrove/bitgrove/BitmapContainer$2"), (39, u "WORDS"), (0, u "I"), (2, u "BYTES"), (1, u "WORD_BLOCK"), (3, u "contains"), (0, u "(I)Z"), (24, u "setRange"), (0, u "([JII)I"), (8, .class_ 133), (0, u "com/example/bitgrove/bitgrove/BitmapContainer$WordIterator")] 8

def k3c0 : Code := { maxStack := 1, maxLocals := 1, code := prog_7_method_1_code, exceptionTable := #[], attributes := #[] }
def k3m0 : Method := { name := "<init>", desc := "()V", sig := { parameters := [], returnType := none }, accessFlags := 0, code := some k3c0 }
def k3m1 : Method := { name := "word", desc := "(I)J", sig := { parameters := [.int], returnType := some .long }, accessFlags := 1024, code := none }
def k3c2 : Code := { maxStack := 5, maxLocals := 2, code := prog_7_method_4_code, exceptionTable := #[], attributes := #[] }
def k3m2 : Method := { name := "contains", desc := "(I)Z", sig := { parameters := [.int], returnType := some .boolean }, accessFlags := 16, code := some k3c2 }
def k3c3 : Code := { maxStack := 7, maxLocals := 7, code := prog_7_method_22_code, exceptionTable := #[], attributes := #[] }
def k3m3 : Method := { name := "setRange", desc := "([JII)I", sig := { parameters := [(.array .long), .int, .int], returnType := some .int }, accessFlags := 8, code := some k3c3 }
def k3c4 : Code := { maxStack := 5, maxLocals := 5, code := prog_7_method_25_code, exceptionTable := #[], attributes := #[] }
def k3m4 : Method := { name := "rangeMask", desc := "(III)J", sig := { parameters := [.int, .int, .int], returnType := some .long }, accessFlags := 10, code := some k3c4 }
/-- com/example/bitgrove/bitgrove/BitmapContainer -/
def k3 : Class := { plain "com/example/bitgrove/bitgrove/BitmapContainer" (some 2) with
  accessFlags := 1056
  interfaces := #[]
  cf := some (fileOf pool3 5 #[.nestMembers #[132, 45, 40]] #[{ accessFlags := 0, nameIndex := 9, descriptorIndex := 10, attributes := #[] }, { accessFlags := 1024, nameIndex := 13, descriptorIndex := 14, attributes := #[] }, { accessFlags := 16, nameIndex := 96, descriptorIndex := 97, attributes := #[] }, { accessFlags := 8, nameIndex := 122, descriptorIndex := 123, attributes := #[] }, { accessFlags := 10, nameIndex := 17, descriptorIndex := 18, attributes := #[] }] 1056 1 #[] #[{ accessFlags := 24, nameIndex := 86, descriptorIndex := 87, attributes := #[] }, { accessFlags := 24, nameIndex := 90, descriptorIndex := 87, attributes := #[] }, { accessFlags := 26, nameIndex := 92, descriptorIndex := 87, attributes := #[] }])
  fields := #[{ name := "WORDS", type := .int, accessFlags := 24, slot := 0, constantValue := 0 }, { name := "BYTES", type := .int, accessFlags := 24, slot := 1, constantValue := 0 }, { name := "WORD_BLOCK", type := .int, accessFlags := 26, slot := 2, constantValue := 0 }]
  methods := #[k3m0, k3m1, k3m2, k3m3, k3m4]
  instanceTypes := #[]
  staticTypes := #[.int, .int, .int]
  resolved := Array.replicate 142 none
  statics := none }

def pool4 : Array CpInfo := pool [(1, .class_ 2), (0, u "java/io/Serializable"), (0, .class_ 4), (0, u "java/lang/Object")] 2

/-- java/io/Serializable -/
def k4 : Class := { plain "java/io/Serializable" (some 0) with
  accessFlags := 1537
  interfaces := #[]
  cf := some (fileOf pool4 1 #[] #[] 1537 3 #[] #[])
  fields := #[]
  methods := #[]
  instanceTypes := #[]
  staticTypes := #[]
  resolved := Array.replicate 7 none
  statics := none }

def pool5 : Array CpInfo := pool [(2, .class_ 4), (1, u "java/lang/Object"), (0, u "<init>"), (0, u "()V"), (1, .class_ 10), (1, u "java/lang/Number"), (2, .class_ 14), (0, u "java/io/Serializable"), (0, u "serialVersionUID"), (0, u "J")] 20

def k5m0 : Method := { name := "<init>", desc := "()V", sig := { parameters := [], returnType := none }, accessFlags := 1, code := none }
/-- java/lang/Number -/
def k5 : Class := { plain "java/lang/Number" (some 0) with
  accessFlags := 1057
  interfaces := #[4]
  cf := some (fileOf pool5 8 #[] #[{ accessFlags := 1, nameIndex := 5, descriptorIndex := 6, attributes := #[] }] 1057 2 #[13] #[{ accessFlags := 26, nameIndex := 15, descriptorIndex := 16, attributes := #[] }])
  fields := #[{ name := "serialVersionUID", type := .long, accessFlags := 26, slot := 0, constantValue := 0 }]
  methods := #[k5m0]
  instanceTypes := #[]
  staticTypes := #[.long]
  resolved := Array.replicate 37 none
  statics := none }

def pool6 : Array CpInfo := pool [(1, .class_ 2), (0, u "java/lang/Comparable"), (0, .class_ 4), (0, u "java/lang/Object")] 7

/-- java/lang/Comparable -/
def k6 : Class := { plain "java/lang/Comparable" (some 0) with
  accessFlags := 1537
  interfaces := #[]
  cf := some (fileOf pool6 1 #[] #[] 1537 3 #[] #[])
  fields := #[]
  methods := #[]
  instanceTypes := #[]
  staticTypes := #[]
  resolved := Array.replicate 12 none
  statics := none }

def pool7 : Array CpInfo := pool [(1, .class_ 2), (0, u "java/lang/constant/Constable"), (0, .class_ 4), (0, u "java/lang/Object")] 6

/-- java/lang/constant/Constable -/
def k7 : Class := { plain "java/lang/constant/Constable" (some 0) with
  accessFlags := 1537
  interfaces := #[]
  cf := some (fileOf pool7 1 #[] #[] 1537 3 #[] #[])
  fields := #[]
  methods := #[]
  instanceTypes := #[]
  staticTypes := #[]
  resolved := Array.replicate 11 none
  statics := none }

def pool8 : Array CpInfo := pool [(1, .class_ 2), (0, u "java/lang/constant/ConstantDesc"), (0, .class_ 4), (0, u "java/lang/Object")] 32

/-- java/lang/constant/ConstantDesc -/
def k8 : Class := { plain "java/lang/constant/ConstantDesc" (some 0) with
  accessFlags := 1537
  interfaces := #[]
  cf := some (fileOf pool8 1 #[] #[] 1537 3 #[] #[])
  fields := #[]
  methods := #[]
  instanceTypes := #[]
  staticTypes := #[]
  resolved := Array.replicate 37 none
  statics := none }

def pool9 : Array CpInfo := pool [(1, .class_ 2), (0, u "java/lang/Long"), (98, u "(J)I"), (133, .class_ 237), (1, u "java/lang/Long$LongCache"), (33, .class_ 272), (0, u "java/lang/Number"), (2, u "value"), (0, u "J"), (37, .long 6148914691236517205), (1, .long 3689348814741910323), (1, .long 1085102592571150095), (42, u "TYPE"), (0, u "Ljava/lang/Class;"), (0, .class_ 364), (0, u "java/lang/Comparable"), (0, .class_ 366), (0, u "java/lang/constant/Constable"), (0, .class_ 368), (0, u "java/lang/constant/ConstantDesc"), (0, u "MIN_VALUE"), (1, u "MAX_VALUE"), (4, u "SIZE"), (0, u "I"), (1, u "BYTES"), (1, u "serialVersionUID"), (94, u "bitCount")] 47

def k9c0 : Code := { maxStack := 6, maxLocals := 2, code := jdk_35_method_50_code, exceptionTable := #[], attributes := #[] }
def k9m0 : Method := { name := "bitCount", desc := "(J)I", sig := { parameters := [.long], returnType := some .int }, accessFlags := 9, code := some k9c0 }
/-- java/lang/Long -/
def k9 : Class := { plain "java/lang/Long" (some 5) with
  accessFlags := 49
  interfaces := #[6, 7, 8]
  cf := some (fileOf pool9 1 #[.nestMembers #[235]] #[{ accessFlags := 9, nameIndex := 476, descriptorIndex := 101, attributes := #[] }] 49 271 #[363, 365, 367] #[{ accessFlags := 25, nameIndex := 369, descriptorIndex := 276, attributes := #[] }, { accessFlags := 25, nameIndex := 371, descriptorIndex := 276, attributes := #[] }, { accessFlags := 25, nameIndex := 361, descriptorIndex := 362, attributes := #[] }, { accessFlags := 18, nameIndex := 275, descriptorIndex := 276, attributes := #[] }, { accessFlags := 25, nameIndex := 376, descriptorIndex := 377, attributes := #[] }, { accessFlags := 25, nameIndex := 379, descriptorIndex := 377, attributes := #[] }, { accessFlags := 26, nameIndex := 381, descriptorIndex := 276, attributes := #[] }])
  fields := #[{ name := "MIN_VALUE", type := .long, accessFlags := 25, slot := 0, constantValue := 0 }, { name := "MAX_VALUE", type := .long, accessFlags := 25, slot := 1, constantValue := 0 }, { name := "TYPE", type := (.object "java/lang/Class"), accessFlags := 25, slot := 2, constantValue := 0 }, { name := "value", type := .long, accessFlags := 18, slot := 0, constantValue := 0 }, { name := "SIZE", type := .int, accessFlags := 25, slot := 3, constantValue := 0 }, { name := "BYTES", type := .int, accessFlags := 25, slot := 4, constantValue := 0 }, { name := "serialVersionUID", type := .long, accessFlags := 26, slot := 5, constantValue := 0 }]
  methods := #[k9m0]
  instanceTypes := #[.long]
  staticTypes := #[.long, .long, (.object "java/lang/Class"), .int, .int, .long]
  resolved := Array.replicate 524 none
  statics := none }

def pool10 : Array CpInfo := pool [(2, .class_ 4), (1, u "com/example/bitgrove/bitgrove/HeapBitmapContainer"), (4, u "<init>"), (0, u "([JI)V"), (0, .methodref 12 13), (0, .class_ 14), (0, .nameAndType 9 15), (0, u "com/example/bitgrove/bitgrove/BitmapContainer"), (0, u "()V"), (0, .fieldref 2 17), (0, .nameAndType 18 19), (0, u "words"), (0, u "[J"), (0, .fieldref 2 21), (0, .nameAndType 22 23), (0, u "cardinality"), (0, u "I"), (46, u "()I"), (0, u "word"), (0, u "(I)J"), (2, u "add"), (0, u "(I)Lcom/example/bitgrove/bitgrove/Container;")] 9

def k10c0 : Code := { maxStack := 2, maxLocals := 3, code := prog_23_method_2_code, exceptionTable := #[], attributes := #[] }
def k10m0 : Method := { name := "<init>", desc := "([JI)V", sig := { parameters := [(.array .long), .int], returnType := none }, accessFlags := 0, code := some k10c0 }
def k10c1 : Code := { maxStack := 1, maxLocals := 1, code := prog_23_method_3_code, exceptionTable := #[], attributes := #[] }
def k10m1 : Method := { name := "cardinality", desc := "()I", sig := { parameters := [], returnType := some .int }, accessFlags := 0, code := some k10c1 }
def k10c2 : Code := { maxStack := 2, maxLocals := 2, code := prog_23_method_4_code, exceptionTable := #[], attributes := #[] }
def k10m2 : Method := { name := "word", desc := "(I)J", sig := { parameters := [.int], returnType := some .long }, accessFlags := 0, code := some k10c2 }
def k10c3 : Code := { maxStack := 5, maxLocals := 6, code := prog_23_method_6_code, exceptionTable := #[], attributes := #[] }
def k10m3 : Method := { name := "add", desc := "(I)Lcom/example/bitgrove/bitgrove/Container;", sig := { parameters := [.int], returnType := some (.object "com/example/bitgrove/bitgrove/Container") }, accessFlags := 0, code := some k10c3 }
/-- com/example/bitgrove/bitgrove/HeapBitmapContainer -/
def k10 : Class := { plain "com/example/bitgrove/bitgrove/HeapBitmapContainer" (some 3) with
  accessFlags := 48
  interfaces := #[]
  cf := some (fileOf pool10 2 #[] #[{ accessFlags := 0, nameIndex := 9, descriptorIndex := 10, attributes := #[] }, { accessFlags := 0, nameIndex := 22, descriptorIndex := 70, attributes := #[] }, { accessFlags := 0, nameIndex := 71, descriptorIndex := 72, attributes := #[] }, { accessFlags := 0, nameIndex := 75, descriptorIndex := 76, attributes := #[] }] 48 12 #[] #[{ accessFlags := 18, nameIndex := 18, descriptorIndex := 19, attributes := #[] }, { accessFlags := 2, nameIndex := 22, descriptorIndex := 23, attributes := #[] }])
  fields := #[{ name := "words", type := (.array .long), accessFlags := 18, slot := 0, constantValue := 0 }, { name := "cardinality", type := .int, accessFlags := 2, slot := 1, constantValue := 0 }]
  methods := #[k10m0, k10m1, k10m2, k10m3]
  instanceTypes := #[(.array .long), .int]
  staticTypes := #[]
  resolved := Array.replicate 86 none
  statics := none }

def pool11 : Array CpInfo := pool [(1, u "java/lang/Cloneable"), (0, .class_ 1), (0, u "java/lang/Object"), (0, .class_ 3)] 3

/-- java/lang/Cloneable -/
def k11 : Class := { plain "java/lang/Cloneable" (some 0) with
  accessFlags := 1537
  interfaces := #[]
  cf := some (fileOf pool11 2 #[] #[] 1537 4 #[] #[])
  fields := #[]
  methods := #[]
  instanceTypes := #[]
  staticTypes := #[]
  resolved := Array.replicate 8 none
  statics := none }

/-- the primitive byte -/
def k12 : Class := { plain "byte" none with kind := .primitive 'B', accessFlags := 0x411 }
/-- [B -/
def k13 : Class := { plain "[B" (some 0) with kind := .array 12 .byte, interfaces := #[11, 4], accessFlags := 1041 }

/-- the primitive int -/
def k14 : Class := { plain "int" none with kind := .primitive 'I', accessFlags := 0x411 }
/-- [I -/
def k15 : Class := { plain "[I" (some 0) with kind := .array 14 .int, interfaces := #[11, 4], accessFlags := 1041 }

/-- the primitive long -/
def k16 : Class := { plain "long" none with kind := .primitive 'J', accessFlags := 0x411 }
/-- [J -/
def k17 : Class := { plain "[J" (some 0) with kind := .array 16 .long, interfaces := #[11, 4], accessFlags := 1041 }

def heap : Heap := #[]
def classes : Array Class := #[k0, k1, k2, k3, k4, k5, k6, k7, k8, k9, k10, k11, k12, k13, k14, k15, k16, k17]
def interned : List (Array UInt16 × Addr) := []
def slotsUsed : Nat := 0
def theMethod : MethodId := ⟨1, 1⟩
def args0 : Array Value := #[.int 0, .long 3, .long 2]
def aboutOver (below : List Frame) : State where
  vm := { classes := classes, interned := interned.toArray }
  heap := heap
  slotsUsed := slotsUsed
  threads := #[{ frames := .invoking theMethod args0 :: below }]
def below0 : List Frame := [.native { method := ⟨0, 0⟩, args := #[] }]
def about1 : State := aboutOver below0
def p0 : Program := .bare "" "" ""
def e0 : Env := launch0.env 0 0 0
theorem w_frames : about1.frames = Frame.invoking theMethod args0 :: below0 := rfl
set_option maxRecDepth 65536 in
theorem w_args : argsFit about1.vm theMethod args0 = true := by decide +kernel
set_option maxRecDepth 65536 in
theorem w_heap : heapFits about1 = true := by decide +kernel
set_option maxRecDepth 65536 in
theorem w_runnable : about1.curStatus? = some .runnable := by decide +kernel
set_option maxRecDepth 65536 in
theorem w_alone : about1.alone = true := by decide +kernel
set_option maxRecDepth 65536 in
theorem w_named : about1.methodNamed? x = some theMethod := by decide +kernel
set_option maxRecDepth 65536 in
theorem w_hears : about1.hears theMethod below0 = true := by decide +kernel
set_option maxRecDepth 65536 in
theorem w_ripe : about1.ripe theMethod args0 below0 = true := by decide +kernel
theorem w_running : about1.status = .running := rfl
set_option maxRecDepth 65536 in
theorem w_room : about1.hasRoom e0.platform room_1 = true :=
  launch0.hasRoom_least _ room_1 (by decide +kernel) (by decide +kernel) (by decide +kernel) (by decide +kernel) (by decide +kernel) (by decide +kernel)
theorem allAtoms_all (ts : List Jvm.Cond) (a : Array Jvm.Value) (st : Jvm.State) : (allAtoms ts).before a st = ts.all (fun c => c.before a st) := by
  induction ts with
  | nil => rfl
  | cons c t ih =>
    show (Jvm.Cond.and c (allAtoms t)).before a st = _
    rw [Jvm.Cond.before_and, ih, List.all_cons]
def words1 : List Jvm.Cond := Jvm.Cond.code x code maxLocals ret :: tables_1
/-- a 'code' word, met by the world's own term for the bytes: nothing is compared byte by byte -/
theorem code_word {y : MethodName} {bytes : ByteArray} {mx : Nat} {rt : Option FieldType} {a : Array Value} {s : State} {m : MethodId} {meth : Method} {c : Code} (h1 : s.methodNamed? y = some m) (h2 : s.vm.method? m = some meth) (h3 : meth.code = some c) (h4 : c.code = bytes)
    (h5 : (c.maxLocals == mx && c.exceptionTable.isEmpty && decide (c.maxStack ≤ mostOperands) && decide (meth.sig.returnType = rt) && !meth.locks && decide (parseMethodDescriptor y.desc = some meth.sig)) = true) : (Jvm.Cond.code y bytes mx rt).before a s = true := by
  simp only [Bool.and_eq_true, beq_iff_eq, Bool.not_eq_true', decide_eq_true_eq] at h5
  obtain ⟨⟨⟨⟨⟨g1, g2⟩, g3⟩, g4⟩, g5⟩, g6⟩ := h5
  simp [Cond.before, Cond.holds, Cond.value, h1, h2, h3, h4, g1, g2, g3, g4, g5, g6]
def isCode : Jvm.Cond → Bool
  | .code _ _ _ _ => true
  | _ => false
theorem all_split {L : List Jvm.Cond} {P : Jvm.Cond → Bool} (h1 : L.all (fun c => isCode c || P c) = true) (h2 : ∀ c ∈ L.filter isCode, P c = true) : L.all P = true := by
  refine List.all_eq_true.mpr fun c hc => ?_
  have h := List.all_eq_true.mp h1 c hc
  rcases Bool.eq_false_or_eq_true (isCode c) with hi | hi
  · exact h2 c (List.mem_filter.mpr ⟨hc, hi⟩)
  · simpa [hi] using h
set_option maxRecDepth 65536 in
theorem w_c0 : (Jvm.Cond.code x code maxLocals ret).before args0 about1 = true := code_word (m := ⟨1, 1⟩) (meth := k1m1) (c := k1c1) (by decide +kernel) rfl rfl rfl (by decide +kernel)
set_option maxRecDepth 65536 in
theorem w_c1 : (Jvm.Cond.code ({ cls := "com/example/bitgrove/bitgrove/BitmapContainer", name := "setRange", desc := "([JII)I" } : Jvm.MethodName) prog_7_method_22_code (7 : Nat) (Option.some Jvm.ClassFile.FieldType.int)).before args0 about1 = true := code_word (m := ⟨3, 3⟩) (meth := k3m3) (c := k3c3) (by decide +kernel) rfl rfl rfl (by decide +kernel)
set_option maxRecDepth 65536 in
theorem w_c2 : (Jvm.Cond.code ({ cls := "com/example/bitgrove/bitgrove/BitmapContainer", name := "rangeMask", desc := "(III)J" } : Jvm.MethodName) prog_7_method_25_code (5 : Nat) (Option.some Jvm.ClassFile.FieldType.long)).before args0 about1 = true := code_word (m := ⟨3, 4⟩) (meth := k3m4) (c := k3c4) (by decide +kernel) rfl rfl rfl (by decide +kernel)
set_option maxRecDepth 65536 in
theorem w_c3 : (Jvm.Cond.code ({ cls := "java/lang/Long", name := "bitCount", desc := "(J)I" } : Jvm.MethodName) jdk_35_method_50_code (2 : Nat) (Option.some Jvm.ClassFile.FieldType.int)).before args0 about1 = true := code_word (m := ⟨9, 0⟩) (meth := k9m0) (c := k9c0) (by decide +kernel) rfl rfl rfl (by decide +kernel)
set_option maxRecDepth 65536 in
theorem w_c4 : (Jvm.Cond.code ({ cls := "com/example/bitgrove/bitgrove/HeapBitmapContainerAddPinLaw", name := "pop", desc := "(J)I" } : Jvm.MethodName) method_3_code (4 : Nat) (Option.some Jvm.ClassFile.FieldType.int)).before args0 about1 = true := code_word (m := ⟨1, 2⟩) (meth := k1m2) (c := k1c2) (by decide +kernel) rfl rfl rfl (by decide +kernel)
set_option maxRecDepth 65536 in
theorem w_c5 : (Jvm.Cond.code ({ cls := "com/example/bitgrove/bitgrove/HeapBitmapContainer", name := "<init>", desc := "([JI)V" } : Jvm.MethodName) prog_23_method_2_code (3 : Nat) (Option.none : Option Jvm.ClassFile.FieldType)).before args0 about1 = true := code_word (m := ⟨10, 0⟩) (meth := k10m0) (c := k10c0) (by decide +kernel) rfl rfl rfl (by decide +kernel)
set_option maxRecDepth 65536 in
theorem w_c6 : (Jvm.Cond.code ({ cls := "com/example/bitgrove/bitgrove/BitmapContainer", name := "<init>", desc := "()V" } : Jvm.MethodName) prog_7_method_1_code (1 : Nat) (Option.none : Option Jvm.ClassFile.FieldType)).before args0 about1 = true := code_word (m := ⟨3, 0⟩) (meth := k3m0) (c := k3c0) (by decide +kernel) rfl rfl rfl (by decide +kernel)
set_option maxRecDepth 65536 in
theorem w_c7 : (Jvm.Cond.code ({ cls := "com/example/bitgrove/bitgrove/Container", name := "<init>", desc := "()V" } : Jvm.MethodName) prog_20_method_1_code (1 : Nat) (Option.none : Option Jvm.ClassFile.FieldType)).before args0 about1 = true := code_word (m := ⟨2, 0⟩) (meth := k2m0) (c := k2c0) (by decide +kernel) rfl rfl rfl (by decide +kernel)
set_option maxRecDepth 65536 in
theorem w_c8 : (Jvm.Cond.code ({ cls := "java/lang/Object", name := "<init>", desc := "()V" } : Jvm.MethodName) object_method_1_code (1 : Nat) (Option.none : Option Jvm.ClassFile.FieldType)).before args0 about1 = true := code_word (m := ⟨0, 0⟩) (meth := k0m0) (c := k0c0) (by decide +kernel) rfl rfl rfl (by decide +kernel)
set_option maxRecDepth 65536 in
theorem w_c9 : (Jvm.Cond.code ({ cls := "com/example/bitgrove/bitgrove/HeapBitmapContainer", name := "add", desc := "(I)Lcom/example/bitgrove/bitgrove/Container;" } : Jvm.MethodName) prog_23_method_6_code (6 : Nat) (Option.some (Jvm.ClassFile.FieldType.object "com/example/bitgrove/bitgrove/Container"))).before args0 about1 = true := code_word (m := ⟨10, 3⟩) (meth := k10m3) (c := k10c3) (by decide +kernel) rfl rfl rfl (by decide +kernel)
set_option maxRecDepth 65536 in
theorem w_c10 : (Jvm.Cond.code ({ cls := "com/example/bitgrove/bitgrove/HeapBitmapContainer", name := "word", desc := "(I)J" } : Jvm.MethodName) prog_23_method_4_code (2 : Nat) (Option.some Jvm.ClassFile.FieldType.long)).before args0 about1 = true := code_word (m := ⟨10, 2⟩) (meth := k10m2) (c := k10c2) (by decide +kernel) rfl rfl rfl (by decide +kernel)
set_option maxRecDepth 65536 in
theorem w_c11 : (Jvm.Cond.code ({ cls := "com/example/bitgrove/bitgrove/BitmapContainer", name := "contains", desc := "(I)Z" } : Jvm.MethodName) prog_7_method_4_code (2 : Nat) (Option.some Jvm.ClassFile.FieldType.boolean)).before args0 about1 = true := code_word (m := ⟨3, 2⟩) (meth := k3m2) (c := k3c2) (by decide +kernel) rfl rfl rfl (by decide +kernel)
set_option maxRecDepth 65536 in
theorem w_c12 : (Jvm.Cond.code ({ cls := "com/example/bitgrove/bitgrove/HeapBitmapContainer", name := "cardinality", desc := "()I" } : Jvm.MethodName) prog_23_method_3_code (1 : Nat) (Option.some Jvm.ClassFile.FieldType.int)).before args0 about1 = true := code_word (m := ⟨10, 1⟩) (meth := k10m1) (c := k10c1) (by decide +kernel) rfl rfl rfl (by decide +kernel)
def codes1 : List Jvm.Cond := [Jvm.Cond.code x code maxLocals ret, Jvm.Cond.code ({ cls := "com/example/bitgrove/bitgrove/BitmapContainer", name := "setRange", desc := "([JII)I" } : Jvm.MethodName) prog_7_method_22_code (7 : Nat) (Option.some Jvm.ClassFile.FieldType.int), Jvm.Cond.code ({ cls := "com/example/bitgrove/bitgrove/BitmapContainer", name := "rangeMask", desc := "(III)J" } : Jvm.MethodName) prog_7_method_25_code (5 : Nat) (Option.some Jvm.ClassFile.FieldType.long), Jvm.Cond.code ({ cls := "java/lang/Long", name := "bitCount", desc := "(J)I" } : Jvm.MethodName) jdk_35_method_50_code (2 : Nat) (Option.some Jvm.ClassFile.FieldType.int), Jvm.Cond.code ({ cls := "com/example/bitgrove/bitgrove/HeapBitmapContainerAddPinLaw", name := "pop", desc := "(J)I" } : Jvm.MethodName) method_3_code (4 : Nat) (Option.some Jvm.ClassFile.FieldType.int), Jvm.Cond.code ({ cls := "com/example/bitgrove/bitgrove/HeapBitmapContainer", name := "<init>", desc := "([JI)V" } : Jvm.MethodName) prog_23_method_2_code (3 : Nat) (Option.none : Option Jvm.ClassFile.FieldType), Jvm.Cond.code ({ cls := "com/example/bitgrove/bitgrove/BitmapContainer", name := "<init>", desc := "()V" } : Jvm.MethodName) prog_7_method_1_code (1 : Nat) (Option.none : Option Jvm.ClassFile.FieldType), Jvm.Cond.code ({ cls := "com/example/bitgrove/bitgrove/Container", name := "<init>", desc := "()V" } : Jvm.MethodName) prog_20_method_1_code (1 : Nat) (Option.none : Option Jvm.ClassFile.FieldType), Jvm.Cond.code ({ cls := "java/lang/Object", name := "<init>", desc := "()V" } : Jvm.MethodName) object_method_1_code (1 : Nat) (Option.none : Option Jvm.ClassFile.FieldType), Jvm.Cond.code ({ cls := "com/example/bitgrove/bitgrove/HeapBitmapContainer", name := "add", desc := "(I)Lcom/example/bitgrove/bitgrove/Container;" } : Jvm.MethodName) prog_23_method_6_code (6 : Nat) (Option.some (Jvm.ClassFile.FieldType.object "com/example/bitgrove/bitgrove/Container")), Jvm.Cond.code ({ cls := "com/example/bitgrove/bitgrove/HeapBitmapContainer", name := "word", desc := "(I)J" } : Jvm.MethodName) prog_23_method_4_code (2 : Nat) (Option.some Jvm.ClassFile.FieldType.long), Jvm.Cond.code ({ cls := "com/example/bitgrove/bitgrove/BitmapContainer", name := "contains", desc := "(I)Z" } : Jvm.MethodName) prog_7_method_4_code (2 : Nat) (Option.some Jvm.ClassFile.FieldType.boolean), Jvm.Cond.code ({ cls := "com/example/bitgrove/bitgrove/HeapBitmapContainer", name := "cardinality", desc := "()I" } : Jvm.MethodName) prog_23_method_3_code (1 : Nat) (Option.some Jvm.ClassFile.FieldType.int)]
set_option maxRecDepth 65536 in
theorem codes_eq : words1.filter isCode = codes1 := rfl
theorem w_codes : ∀ c ∈ words1.filter isCode, c.before args0 about1 = true := by
  rw [codes_eq]
  intro c hc
  simp only [codes1, List.mem_cons, List.not_mem_nil, or_false] at hc
  rcases hc with rfl | rfl | rfl | rfl | rfl | rfl | rfl | rfl | rfl | rfl | rfl | rfl | rfl
  · exact w_c0
  · exact w_c1
  · exact w_c2
  · exact w_c3
  · exact w_c4
  · exact w_c5
  · exact w_c6
  · exact w_c7
  · exact w_c8
  · exact w_c9
  · exact w_c10
  · exact w_c11
  · exact w_c12
set_option maxRecDepth 65536 in
theorem w_t1 : (words1.take 24).all (fun c => isCode c || c.before args0 about1) = true := by decide +kernel
set_option maxRecDepth 65536 in
theorem w_t2 : ((words1.drop 24).take 24).all (fun c => isCode c || c.before args0 about1) = true := by decide +kernel
set_option maxRecDepth 65536 in
theorem w_t3 : ((words1.drop 24).drop 24).all (fun c => isCode c || c.before args0 about1) = true := by decide +kernel
theorem w_tables : (allAtoms (Jvm.Cond.code x code maxLocals ret :: tables_1)).before args0 about1 = true := by
  rw [allAtoms_all]
  show words1.all (fun c => c.before args0 about1) = true
  refine all_split ?_ w_codes
  rw [← List.take_append_drop 24 words1, List.all_append, w_t1, ← List.take_append_drop 24 (words1.drop 24), List.all_append, w_t2, w_t3]
  rfl
set_option maxRecDepth 65536 in
theorem w_case : (Jvm.Cond.and given_1 narrow_1).before args0 about1 = true := by decide +kernel
theorem w_applies : (headSpec (Jvm.Cond.code x code maxLocals ret :: tables_1) room_1).applies x e0.platform about1 = true :=
  (Spec.applies_iff w_frames).mpr ⟨w_running, w_runnable, w_alone, w_named, w_hears, w_ripe, w_room, w_tables⟩
theorem atStart : AtStart classFile x code maxLocals ret World_1 tables_1 room_1 Calls_1 rest_1 Pre_1 launch0 p0 e0 about1 theMethod args0 below0 :=
  ⟨lists_1, trivial, launch0.admits_env _ _ _, launch0.least_env, fairChoices_fair.cas, fairChoices_fair.clock, w_frames, w_args, w_heap, w_applies, trivial, trivial, w_case⟩
end start1
theorem witness_1 : WitnessClaimed_1 := ⟨start1.p0, start1.e0, start1.about1, start1.theMethod, start1.args0, start1.below0, start1.atStart⟩
end Jvm.Pilot.@@N@@
