import JvmDerived
import JvmDerived.Pilot.@@N@@Statement
import JvmDerived.Pilot.@@N@@Code
set_option linter.unusedVariables false
set_option linter.unusedSimpArgs false
namespace Jvm.RoadKit
open Sem ClassFile Op Lib Jvm.Stand Jvm.Free Jvm.LawKit
section New
variable {p : Program} {l : Launch} {e : Env} {R : Room} {s : State} {m : MethodId} {args : Array Value} {below : List Frame} {meth : Method} {c : Code} {T : State} {locs : List Loc} {cells slots : Nat}
theorem retI (X : Stand p l e R s m args below meth c T locs cells slots) (hx : p.tables.exec = Jvm.exec) {pc : Nat} {Ls : Array Slot} {z : Int32} {rest : List Value} (hret : meth.sig.returnType = some .int) (hd : decode c.code pc = .ok (.ireturn, 1)) {fs : List Frame}
    (hl : ∀ (f : JFrame) (acts : List Action), f.method = m → f.locked = none → f.entered = [] → (doReturn e (T.setTop f) acts (some (.int z))).1 = T.setFrames fs) : Steps p.tables e below (T.setTop (mkF m pc Ls (.int z :: rest))) (T.setFrames fs) := by
  have hm' : T.vm.method? m = some meth := X.method'
  have hn : narrow .int (.int z) = .int z := rfl
  show Steps p.tables e below (T.setTop { method := m, pc := pc, locals := Ls, stack := _ :: rest, locked := none }) _
  jvm_step X.here [X.here.top, hx, hd, hm', hret, hn]
  first | (intro acts; rw [hl _ acts rfl rfl rfl]) | rw [hl _ _ rfl rfl rfl]
  exact Steps.refl _
end New
end Jvm.RoadKit
namespace Jvm.Pilot.@@N@@
open Jvm Jvm.ClassFile Sem Op Lib Jvm.Free Jvm.Stand Jvm.LawKit Jvm.RoadKit Bundle Jvm.Pilot.@@N@@.Jvm.D
/-! plain numbers -/
def own_b (q : Int64) (s : Int32) : Int32 := nar .byte (((((q).toUInt64 >>> (s &&& 0x3f).toInt64.toUInt64).toInt64).toInt32).toInt8.toInt32)
def own_b0 (q : Int64) : Int32 := nar .byte (((q).toInt32).toInt8.toInt32)
def own_acc (g : Nat → Int32) (w : Nat) : Nat → Int64
  | 0 => 0
  | t + 1 => (own_acc g w t <<< ((8 : Int32) &&& 0x3f).toInt64) ||| (g (w - 1 - t) &&& (255 : Int32)).toInt64
def own_sx (x : Int64) (s : Int32) : Int64 := (x <<< (s &&& 0x3f).toInt64) >>> (s &&& 0x3f).toInt64
def own_dat (a b : Int64) (n : Nat) : Int32 := if n = 0 then own_b0 a else if n < 8 then own_b a (Int32.ofNat (8 * n)) else if n = 8 then own_b0 b else own_b b (Int32.ofNat (8 * (n - 8)))
def own_src (st : Int32) (a b : Int64) : Int64 := if st < (8 : Int32) then a else b
def own_x (st : Int32) (a b : Int64) : Int64 := ((own_src st a b).toUInt64 >>> (((st &&& (7 : Int32)) * (8 : Int32)) &&& 0x3f).toInt64.toUInt64).toInt64
theorem d3_0 : decode jdk_30_method_1_code 0 = .ok (.aload_n 0, 1) := by decide +kernel
theorem d3_1 : decode jdk_30_method_1_code 1 = .ok (.invokespecial 1, 3) := by decide +kernel
theorem d3_4 : decode jdk_30_method_1_code 4 = .ok (.return_, 1) := by decide +kernel
theorem pn_0 : plainName "java/lang/Record" = true := by first | (simp [plainName, overriddenIn]; done) | decide +kernel
theorem ef_rm3 (m : MethodId) (x0 : Addr) : entryFrame m #[(.ref x0)] 1 = mkF m 0 #[.val (.ref x0)] [] := by first | (simp [entryFrame, mkF, argsToLocals, Value.category]; done) | rfl
def Q_rm3 (Z : State) (a1 : Addr)  (h0 : Heap) (n0 : Nat) (v : Option Value) (h : Heap) (L : List Loc) : Prop := v = none ∧ Fr n0 L ∧ h = h0
set_option maxRecDepth 65536 in
set_option maxHeartbeats 40000000 in
theorem rm3 (l : Launch) (Z : State) (a0 : Array Value) (hw : ∀ d ∈ tables_1, d.before a0 Z = true) (ws : List Jvm.Cond) (a1 : Addr)  (h0 : Heap) (n0 : Nat) (Z0 : n0 ≤ h0.size)  :
    MetFree l (⟨"java/lang/Record", "<init>", "()V"⟩ : MethodName) (head1 (Jvm.Cond.code (⟨"java/lang/Record", "<init>", "()V"⟩ : MethodName) jdk_30_method_1_code 1 none :: ws) ({ frames := 1, cells := 0, slots := 0, locals := 12 } : Room)) (fun a U => a = #[(.ref a1)] ∧ Z.Warmed39 U.vm ∧ U.heap = h0) (fun _ _ _ _ _ => True) (fun _ U o U' => ∃ v L, o = .returned v ∧ Q_rm3 Z a1  h0 n0 v U'.heap L ∧ FrameEnd U o U' L ({ frames := 1, cells := 0, slots := 0, locals := 12 } : Room).cells ({ frames := 1, cells := 0, slots := 0, locals := 12 } : Room).slots) := by
  refine MetFree.of_bodySF (plainFor_of_name pn_0) hisR ?_
  intro p e s m args below meth c s₁ Bd hml0 hP hK
  obtain ⟨rfl, hZ, hh⟩ := hP
  have hx := Bd.exec
  have hby := Bd.bytes
  have hml : c.maxLocals = 1 := hml0
  have hown : s.vm.findClass "java/lang/Record" = some m.cls := findClass_of_methodNamed Bd.named
  have hnm := (name_of_methodNamed Bd.named Bd.method).1
  have X0 : Stand p l e ({ frames := 1, cells := 0, slots := 0, locals := 12 } : Room) s m #[(.ref a1)] below meth c s₁ [] 0 0 := Stand.of_body Bd
  have e0 : s₁.heap = h0 := by rw [← hh, Bd.state]; rfl
  have N0 := Fr.nil n0
  have pre0 : ∀ t, Steps p.tables e below (s₁.setTop (mkF m 0 #[.val (.ref a1)] [])) t → Steps p.tables e below (s₁.setTop (entryFrame m #[(.ref a1)] 1)) t := fun t k => castTop (ef_rm3 m a1) k
  have R0 : ∀ t, Steps p.tables e below (s₁.setTop (mkF m 0 #[.val (.ref a1)] [])) t → Steps p.tables e below (s₁.setTop (mkF m 0 #[.val (.ref a1)] [])) t := fun _ k => k
  have R1 : ∀ t, Steps p.tables e below (s₁.setTop (mkF m 1 #[.val (.ref a1)] [(.ref a1)])) t → Steps p.tables e below (s₁.setTop (mkF m 0 #[.val (.ref a1)] [])) t := by
    intro t k
    refine R0 t ?_
    refine XS.aloadN X0.here hx rfl (hb hby d3_0) rfl rfl ?_
    exact k
  obtain ⟨T2, X2, e2, st2⟩ := initO X0 hx hZ hown (hw _ (List.mem_of_getElem? (i := 17) rfl)) (hw _ (List.mem_of_getElem? (i := 18) rfl)) (hw _ (List.mem_of_getElem? (i := 19) rfl)) e0 (g := (mkF m 1 #[.val (.ref a1)] [(.ref a1)])) rfl (by rw [hml]; rfl) rfl (hb hby d3_1) (by decide) (W := 0) (by show 2 * 0 + _ ≤ _; exact Nat.le_of_eq rfl) (by decide)
  have R3 : ∀ t, Steps p.tables e below (T2.setTop (mkF m 4 #[.val (.ref a1)] [])) t → Steps p.tables e below (s₁.setTop (mkF m 0 #[.val (.ref a1)] [])) t := fun t k => R1 t (st2 _ k)
  obtain ⟨fs, hr, hrun, hended, hW, hsame⟩ := X2.leave (v := none) (fun _ => rfl)
  refine ⟨_, _, pre0 _ (R3 _ (X2.returnOut hx Bd.returns (hb hby d3_4) hr)), hrun, hended, _, _, rfl, ?_, ⟨_, rfl⟩, hW, hsame.mono (by decide) (by decide)⟩
  show Q_rm3 Z a1  h0 n0 _ T2.heap _
  rw [e2]
  exact ⟨rfl, N0, rfl⟩
theorem d1_0 : decode method_3_code 0 = .ok (.aload_n 0, 1) := by decide +kernel
theorem d1_1 : decode method_3_code 1 = .ok (.iload_n 1, 1) := by decide +kernel
theorem d1_2 : decode method_3_code 2 = .ok (.lload_n 2, 1) := by decide +kernel
theorem d1_3 : decode method_3_code 3 = .ok (.l2i, 1) := by decide +kernel
theorem d1_4 : decode method_3_code 4 = .ok (.i2b, 1) := by decide +kernel
theorem d1_5 : decode method_3_code 5 = .ok (.bastore, 1) := by decide +kernel
theorem d1_6 : decode method_3_code 6 = .ok (.aload_n 0, 1) := by decide +kernel
theorem d1_7 : decode method_3_code 7 = .ok (.iload_n 1, 1) := by decide +kernel
theorem d1_8 : decode method_3_code 8 = .ok (.iconst 1, 1) := by decide +kernel
theorem d1_9 : decode method_3_code 9 = .ok (.iadd, 1) := by decide +kernel
theorem d1_10 : decode method_3_code 10 = .ok (.lload_n 2, 1) := by decide +kernel
theorem d1_11 : decode method_3_code 11 = .ok (.bipush 8, 2) := by decide +kernel
theorem d1_13 : decode method_3_code 13 = .ok (.lushr, 1) := by decide +kernel
theorem d1_14 : decode method_3_code 14 = .ok (.l2i, 1) := by decide +kernel
theorem d1_15 : decode method_3_code 15 = .ok (.i2b, 1) := by decide +kernel
theorem d1_16 : decode method_3_code 16 = .ok (.bastore, 1) := by decide +kernel
theorem d1_17 : decode method_3_code 17 = .ok (.aload_n 0, 1) := by decide +kernel
theorem d1_18 : decode method_3_code 18 = .ok (.iload_n 1, 1) := by decide +kernel
theorem d1_19 : decode method_3_code 19 = .ok (.iconst 2, 1) := by decide +kernel
theorem d1_20 : decode method_3_code 20 = .ok (.iadd, 1) := by decide +kernel
theorem d1_21 : decode method_3_code 21 = .ok (.lload_n 2, 1) := by decide +kernel
theorem d1_22 : decode method_3_code 22 = .ok (.bipush 16, 2) := by decide +kernel
theorem d1_24 : decode method_3_code 24 = .ok (.lushr, 1) := by decide +kernel
theorem d1_25 : decode method_3_code 25 = .ok (.l2i, 1) := by decide +kernel
theorem d1_26 : decode method_3_code 26 = .ok (.i2b, 1) := by decide +kernel
theorem d1_27 : decode method_3_code 27 = .ok (.bastore, 1) := by decide +kernel
theorem d1_28 : decode method_3_code 28 = .ok (.aload_n 0, 1) := by decide +kernel
theorem d1_29 : decode method_3_code 29 = .ok (.iload_n 1, 1) := by decide +kernel
theorem d1_30 : decode method_3_code 30 = .ok (.iconst 3, 1) := by decide +kernel
theorem d1_31 : decode method_3_code 31 = .ok (.iadd, 1) := by decide +kernel
theorem d1_32 : decode method_3_code 32 = .ok (.lload_n 2, 1) := by decide +kernel
theorem d1_33 : decode method_3_code 33 = .ok (.bipush 24, 2) := by decide +kernel
theorem d1_35 : decode method_3_code 35 = .ok (.lushr, 1) := by decide +kernel
theorem d1_36 : decode method_3_code 36 = .ok (.l2i, 1) := by decide +kernel
theorem d1_37 : decode method_3_code 37 = .ok (.i2b, 1) := by decide +kernel
theorem d1_38 : decode method_3_code 38 = .ok (.bastore, 1) := by decide +kernel
theorem d1_39 : decode method_3_code 39 = .ok (.aload_n 0, 1) := by decide +kernel
theorem d1_40 : decode method_3_code 40 = .ok (.iload_n 1, 1) := by decide +kernel
theorem d1_41 : decode method_3_code 41 = .ok (.iconst 4, 1) := by decide +kernel
theorem d1_42 : decode method_3_code 42 = .ok (.iadd, 1) := by decide +kernel
theorem d1_43 : decode method_3_code 43 = .ok (.lload_n 2, 1) := by decide +kernel
theorem d1_44 : decode method_3_code 44 = .ok (.bipush 32, 2) := by decide +kernel
theorem d1_46 : decode method_3_code 46 = .ok (.lushr, 1) := by decide +kernel
theorem d1_47 : decode method_3_code 47 = .ok (.l2i, 1) := by decide +kernel
theorem d1_48 : decode method_3_code 48 = .ok (.i2b, 1) := by decide +kernel
theorem d1_49 : decode method_3_code 49 = .ok (.bastore, 1) := by decide +kernel
theorem d1_50 : decode method_3_code 50 = .ok (.aload_n 0, 1) := by decide +kernel
theorem d1_51 : decode method_3_code 51 = .ok (.iload_n 1, 1) := by decide +kernel
theorem d1_52 : decode method_3_code 52 = .ok (.iconst 5, 1) := by decide +kernel
theorem d1_53 : decode method_3_code 53 = .ok (.iadd, 1) := by decide +kernel
theorem d1_54 : decode method_3_code 54 = .ok (.lload_n 2, 1) := by decide +kernel
theorem d1_55 : decode method_3_code 55 = .ok (.bipush 40, 2) := by decide +kernel
theorem d1_57 : decode method_3_code 57 = .ok (.lushr, 1) := by decide +kernel
theorem d1_58 : decode method_3_code 58 = .ok (.l2i, 1) := by decide +kernel
theorem d1_59 : decode method_3_code 59 = .ok (.i2b, 1) := by decide +kernel
theorem d1_60 : decode method_3_code 60 = .ok (.bastore, 1) := by decide +kernel
theorem d1_61 : decode method_3_code 61 = .ok (.aload_n 0, 1) := by decide +kernel
theorem d1_62 : decode method_3_code 62 = .ok (.iload_n 1, 1) := by decide +kernel
theorem d1_63 : decode method_3_code 63 = .ok (.bipush 6, 2) := by decide +kernel
theorem d1_65 : decode method_3_code 65 = .ok (.iadd, 1) := by decide +kernel
theorem d1_66 : decode method_3_code 66 = .ok (.lload_n 2, 1) := by decide +kernel
theorem d1_67 : decode method_3_code 67 = .ok (.bipush 48, 2) := by decide +kernel
theorem d1_69 : decode method_3_code 69 = .ok (.lushr, 1) := by decide +kernel
theorem d1_70 : decode method_3_code 70 = .ok (.l2i, 1) := by decide +kernel
theorem d1_71 : decode method_3_code 71 = .ok (.i2b, 1) := by decide +kernel
theorem d1_72 : decode method_3_code 72 = .ok (.bastore, 1) := by decide +kernel
theorem d1_73 : decode method_3_code 73 = .ok (.aload_n 0, 1) := by decide +kernel
theorem d1_74 : decode method_3_code 74 = .ok (.iload_n 1, 1) := by decide +kernel
theorem d1_75 : decode method_3_code 75 = .ok (.bipush 7, 2) := by decide +kernel
theorem d1_77 : decode method_3_code 77 = .ok (.iadd, 1) := by decide +kernel
theorem d1_78 : decode method_3_code 78 = .ok (.lload_n 2, 1) := by decide +kernel
theorem d1_79 : decode method_3_code 79 = .ok (.bipush 56, 2) := by decide +kernel
theorem d1_81 : decode method_3_code 81 = .ok (.lushr, 1) := by decide +kernel
theorem d1_82 : decode method_3_code 82 = .ok (.l2i, 1) := by decide +kernel
theorem d1_83 : decode method_3_code 83 = .ok (.i2b, 1) := by decide +kernel
theorem d1_84 : decode method_3_code 84 = .ok (.bastore, 1) := by decide +kernel
theorem d1_85 : decode method_3_code 85 = .ok (.return_, 1) := by decide +kernel
theorem pn_1 : plainName "com/example/rigorous_bytecode/rigorousbytecode/dex/ArrayDataPayloadElementPinLaw" = true := by first | (simp [plainName, overriddenIn]; done) | decide +kernel
theorem ef_rmp0 (m : MethodId) (x0 : Addr) (x1 : Int32) (x2 : Int64) : entryFrame m #[(.ref x0), (.int x1), (.long x2)] 4 = mkF m 0 #[.val (.ref x0), .val (.int x1), .val (.long x2), .second] [] := by first | (simp [entryFrame, mkF, argsToLocals, Value.category]; done) | rfl
def Q_rmp0 (Z : State) (a1 : Addr) (q3 : Int64) (k : ClassId) (h0 : Heap) (n0 : Nat) (v : Option Value) (h : Heap) (L : List Loc) : Prop := v = none ∧ Fr n0 L ∧ Keep h0 h [a1] ∧ Arv Z h a1 k .byte (16 : Int32) [(.int (own_b0 q3)), (.int (own_b q3 (8 : Int32))), (.int (own_b q3 (16 : Int32))), (.int (own_b q3 (24 : Int32))), (.int (own_b q3 (32 : Int32))), (.int (own_b q3 (40 : Int32))), (.int (own_b q3 (48 : Int32))), (.int (own_b q3 (56 : Int32))), (.int (0 : Int32)), (.int (0 : Int32)), (.int (0 : Int32)), (.int (0 : Int32)), (.int (0 : Int32)), (.int (0 : Int32)), (.int (0 : Int32)), (.int (0 : Int32))] (.int (0 : Int32))
set_option maxRecDepth 65536 in
set_option maxHeartbeats 40000000 in
theorem rmp0 (l : Launch) (Z : State) (a0 : Array Value) (hw : ∀ d ∈ tables_1, d.before a0 Z = true) (ws : List Jvm.Cond) (a1 : Addr) (q3 : Int64) (k : ClassId) (h0 : Heap) (n0 : Nat) (Z0 : n0 ≤ h0.size) (V_0 : Arv Z h0 a1 k .byte (16 : Int32) [(.int (0 : Int32)), (.int (0 : Int32)), (.int (0 : Int32)), (.int (0 : Int32)), (.int (0 : Int32)), (.int (0 : Int32)), (.int (0 : Int32)), (.int (0 : Int32)), (.int (0 : Int32)), (.int (0 : Int32)), (.int (0 : Int32)), (.int (0 : Int32)), (.int (0 : Int32)), (.int (0 : Int32)), (.int (0 : Int32)), (.int (0 : Int32))] (.int (0 : Int32))) (n_a1 : n0 ≤ a1) :
    MetFree l (⟨"com/example/rigorous_bytecode/rigorousbytecode/dex/ArrayDataPayloadElementPinLaw", "put", "([BIJ)V"⟩ : MethodName) (head1 (Jvm.Cond.code (⟨"com/example/rigorous_bytecode/rigorousbytecode/dex/ArrayDataPayloadElementPinLaw", "put", "([BIJ)V"⟩ : MethodName) method_3_code 4 none :: ws) ({ frames := 0, cells := 0, slots := 0, locals := 0 } : Room)) (fun a U => a = #[(.ref a1), (.int (0 : Int32)), (.long q3)] ∧ Z.Warmed39 U.vm ∧ U.heap = h0) (fun _ _ _ _ _ => True) (fun _ U o U' => ∃ v L, o = .returned v ∧ Q_rmp0 Z a1 q3 k h0 n0 v U'.heap L ∧ FrameEnd U o U' L ({ frames := 0, cells := 0, slots := 0, locals := 0 } : Room).cells ({ frames := 0, cells := 0, slots := 0, locals := 0 } : Room).slots) := by
  refine MetFree.of_bodySF (plainFor_of_name pn_1) hisR ?_
  intro p e s m args below meth c s₁ Bd hml0 hP hK
  obtain ⟨rfl, hZ, hh⟩ := hP
  have hx := Bd.exec
  have hby := Bd.bytes
  have hml : c.maxLocals = 4 := hml0
  have hown : s.vm.findClass "com/example/rigorous_bytecode/rigorousbytecode/dex/ArrayDataPayloadElementPinLaw" = some m.cls := findClass_of_methodNamed Bd.named
  have hnm := (name_of_methodNamed Bd.named Bd.method).1
  have X0 : Stand p l e ({ frames := 0, cells := 0, slots := 0, locals := 0 } : Room) s m #[(.ref a1), (.int (0 : Int32)), (.long q3)] below meth c s₁ [] 0 0 := Stand.of_body Bd
  have e0 : s₁.heap = h0 := by rw [← hh, Bd.state]; rfl
  have N0 := Fr.nil n0
  have pre0 : ∀ t, Steps p.tables e below (s₁.setTop (mkF m 0 #[.val (.ref a1), .val (.int (0 : Int32)), .val (.long q3), .second] [])) t → Steps p.tables e below (s₁.setTop (entryFrame m #[(.ref a1), (.int (0 : Int32)), (.long q3)] 4)) t := fun t k => castTop (ef_rmp0 m a1 (0 : Int32) q3) k
  have R0 : ∀ t, Steps p.tables e below (s₁.setTop (mkF m 0 #[.val (.ref a1), .val (.int (0 : Int32)), .val (.long q3), .second] [])) t → Steps p.tables e below (s₁.setTop (mkF m 0 #[.val (.ref a1), .val (.int (0 : Int32)), .val (.long q3), .second] [])) t := fun _ k => k
  have R4 : ∀ t, Steps p.tables e below (s₁.setTop (mkF m 5 #[.val (.ref a1), .val (.int (0 : Int32)), .val (.long q3), .second] [(.int ((((q3).toInt32)).toInt8.toInt32)), (.int (0 : Int32)), (.ref a1)])) t → Steps p.tables e below (s₁.setTop (mkF m 0 #[.val (.ref a1), .val (.int (0 : Int32)), .val (.long q3), .second] [])) t := by
    intro t k
    refine R0 t ?_
    refine XS.aloadN X0.here hx rfl (hb hby d1_0) rfl rfl ?_
    refine XS.iloadN X0.here hx rfl (hb hby d1_1) rfl ?_
    refine XS.lloadN X0.here hx rfl (hb hby d1_2) rfl ?_
    refine XS.l2i X0.here hx rfl (hb hby d1_3) rfl ?_
    refine XS.i2b X0.here hx rfl (hb hby d1_4) rfl ?_
    exact k
  obtain ⟨cl5, Ar5, q5, Sz5, Nn5, Hh5, G5⟩ := V_0
  have hin5 : ¬ ((0 : Int32) < 0 ∨ cl5.slots.size ≤ ((0 : Int32)).toNatClampNeg) := inb_of Sz5 ⟨by decide, by decide⟩
  obtain ⟨T5, h5, X5, e5, W5, st5⟩ := stB X0 hx hZ e0 Ar5 (j := (0 : Int32)) hin5 (g := (mkF m 5 #[.val (.ref a1), .val (.int (0 : Int32)), .val (.long q3), .second] [(.int ((((q3).toInt32)).toInt8.toInt32)), (.int (0 : Int32)), (.ref a1)])) rfl rfl (hb hby d1_5)
  have N5 := Fr.snoc X5 N0 n_a1
  have Z5 : n0 ≤ h5.size := Nat.le_trans Z0 (Keep.of_wr W5).1
  have K5 : Keep h0 h5 [a1] := (Keep.refl h0 [a1]).wr W5 (Or.inl (List.mem_of_getElem? (i := 0) rfl))
  have V5 : Arv Z h5 a1 k .byte (16 : Int32) [(.int (own_b0 q3)), (.int (0 : Int32)), (.int (0 : Int32)), (.int (0 : Int32)), (.int (0 : Int32)), (.int (0 : Int32)), (.int (0 : Int32)), (.int (0 : Int32)), (.int (0 : Int32)), (.int (0 : Int32)), (.int (0 : Int32)), (.int (0 : Int32)), (.int (0 : Int32)), (.int (0 : Int32)), (.int (0 : Int32)), (.int (0 : Int32))] (.int (0 : Int32)) := Arv.set Ar5 q5 Sz5 Nn5 Hh5 G5 (fits_nar_byte _) W5 0 rfl (Nat.le_of_ble_eq_true rfl)
  have R6 : ∀ t, Steps p.tables e below (T5.setTop (mkF m 6 #[.val (.ref a1), .val (.int (0 : Int32)), .val (.long q3), .second] [])) t → Steps p.tables e below (s₁.setTop (mkF m 0 #[.val (.ref a1), .val (.int (0 : Int32)), .val (.long q3), .second] [])) t := fun t k => R4 t (st5 _ k)
  have R7 : ∀ t, Steps p.tables e below (T5.setTop (mkF m 16 #[.val (.ref a1), .val (.int (0 : Int32)), .val (.long q3), .second] [(.int (((((((q3).toUInt64 >>> ((8 : Int32) &&& 0x3f).toInt64.toUInt64).toInt64)).toInt32)).toInt8.toInt32)), (.int ((0 : Int32) + (1 : Int32))), (.ref a1)])) t → Steps p.tables e below (s₁.setTop (mkF m 0 #[.val (.ref a1), .val (.int (0 : Int32)), .val (.long q3), .second] [])) t := by
    intro t k
    refine R6 t ?_
    refine XS.aloadN X5.here hx rfl (hb hby d1_6) rfl rfl ?_
    refine XS.iloadN X5.here hx rfl (hb hby d1_7) rfl ?_
    refine XS.iconst X5.here hx rfl (hb hby d1_8) ?_
    refine XS.iadd X5.here hx rfl (hb hby d1_9) rfl ?_
    refine XS.lloadN X5.here hx rfl (hb hby d1_10) rfl ?_
    refine XS.bipush X5.here hx rfl (hb hby d1_11) ?_
    refine XS.lushr X5.here hx rfl (hb hby d1_13) rfl ?_
    refine XS.l2i X5.here hx rfl (hb hby d1_14) rfl ?_
    refine XS.i2b X5.here hx rfl (hb hby d1_15) rfl ?_
    exact k
  obtain ⟨cl8, Ar8, q8, Sz8, Nn8, Hh8, G8⟩ := V5
  have hin8 : ¬ (((0 : Int32) + (1 : Int32)) < 0 ∨ cl8.slots.size ≤ (((0 : Int32) + (1 : Int32))).toNatClampNeg) := inb_of Sz8 ⟨by decide, by decide⟩
  obtain ⟨T8, h8, X8, e8, W8, st8⟩ := stB X5 hx hZ e5 Ar8 (j := ((0 : Int32) + (1 : Int32))) hin8 (g := (mkF m 16 #[.val (.ref a1), .val (.int (0 : Int32)), .val (.long q3), .second] [(.int (((((((q3).toUInt64 >>> ((8 : Int32) &&& 0x3f).toInt64.toUInt64).toInt64)).toInt32)).toInt8.toInt32)), (.int ((0 : Int32) + (1 : Int32))), (.ref a1)])) rfl rfl (hb hby d1_16)
  have N8 := Fr.snoc X8 N5 n_a1
  have Z8 : n0 ≤ h8.size := Nat.le_trans Z5 (Keep.of_wr W8).1
  have K8 : Keep h0 h8 [a1] := K5.wr W8 (Or.inl (List.mem_of_getElem? (i := 0) rfl))
  have V8 : Arv Z h8 a1 k .byte (16 : Int32) [(.int (own_b0 q3)), (.int (own_b q3 (8 : Int32))), (.int (0 : Int32)), (.int (0 : Int32)), (.int (0 : Int32)), (.int (0 : Int32)), (.int (0 : Int32)), (.int (0 : Int32)), (.int (0 : Int32)), (.int (0 : Int32)), (.int (0 : Int32)), (.int (0 : Int32)), (.int (0 : Int32)), (.int (0 : Int32)), (.int (0 : Int32)), (.int (0 : Int32))] (.int (0 : Int32)) := Arv.set Ar8 q8 Sz8 Nn8 Hh8 G8 (fits_nar_byte _) W8 1 rfl (Nat.le_of_ble_eq_true rfl)
  have R9 : ∀ t, Steps p.tables e below (T8.setTop (mkF m 17 #[.val (.ref a1), .val (.int (0 : Int32)), .val (.long q3), .second] [])) t → Steps p.tables e below (s₁.setTop (mkF m 0 #[.val (.ref a1), .val (.int (0 : Int32)), .val (.long q3), .second] [])) t := fun t k => R7 t (st8 _ k)
  have R10 : ∀ t, Steps p.tables e below (T8.setTop (mkF m 27 #[.val (.ref a1), .val (.int (0 : Int32)), .val (.long q3), .second] [(.int (((((((q3).toUInt64 >>> ((16 : Int32) &&& 0x3f).toInt64.toUInt64).toInt64)).toInt32)).toInt8.toInt32)), (.int ((0 : Int32) + (2 : Int32))), (.ref a1)])) t → Steps p.tables e below (s₁.setTop (mkF m 0 #[.val (.ref a1), .val (.int (0 : Int32)), .val (.long q3), .second] [])) t := by
    intro t k
    refine R9 t ?_
    refine XS.aloadN X8.here hx rfl (hb hby d1_17) rfl rfl ?_
    refine XS.iloadN X8.here hx rfl (hb hby d1_18) rfl ?_
    refine XS.iconst X8.here hx rfl (hb hby d1_19) ?_
    refine XS.iadd X8.here hx rfl (hb hby d1_20) rfl ?_
    refine XS.lloadN X8.here hx rfl (hb hby d1_21) rfl ?_
    refine XS.bipush X8.here hx rfl (hb hby d1_22) ?_
    refine XS.lushr X8.here hx rfl (hb hby d1_24) rfl ?_
    refine XS.l2i X8.here hx rfl (hb hby d1_25) rfl ?_
    refine XS.i2b X8.here hx rfl (hb hby d1_26) rfl ?_
    exact k
  obtain ⟨cl11, Ar11, q11, Sz11, Nn11, Hh11, G11⟩ := V8
  have hin11 : ¬ (((0 : Int32) + (2 : Int32)) < 0 ∨ cl11.slots.size ≤ (((0 : Int32) + (2 : Int32))).toNatClampNeg) := inb_of Sz11 ⟨by decide, by decide⟩
  obtain ⟨T11, h11, X11, e11, W11, st11⟩ := stB X8 hx hZ e8 Ar11 (j := ((0 : Int32) + (2 : Int32))) hin11 (g := (mkF m 27 #[.val (.ref a1), .val (.int (0 : Int32)), .val (.long q3), .second] [(.int (((((((q3).toUInt64 >>> ((16 : Int32) &&& 0x3f).toInt64.toUInt64).toInt64)).toInt32)).toInt8.toInt32)), (.int ((0 : Int32) + (2 : Int32))), (.ref a1)])) rfl rfl (hb hby d1_27)
  have N11 := Fr.snoc X11 N8 n_a1
  have Z11 : n0 ≤ h11.size := Nat.le_trans Z8 (Keep.of_wr W11).1
  have K11 : Keep h0 h11 [a1] := K8.wr W11 (Or.inl (List.mem_of_getElem? (i := 0) rfl))
  have V11 : Arv Z h11 a1 k .byte (16 : Int32) [(.int (own_b0 q3)), (.int (own_b q3 (8 : Int32))), (.int (own_b q3 (16 : Int32))), (.int (0 : Int32)), (.int (0 : Int32)), (.int (0 : Int32)), (.int (0 : Int32)), (.int (0 : Int32)), (.int (0 : Int32)), (.int (0 : Int32)), (.int (0 : Int32)), (.int (0 : Int32)), (.int (0 : Int32)), (.int (0 : Int32)), (.int (0 : Int32)), (.int (0 : Int32))] (.int (0 : Int32)) := Arv.set Ar11 q11 Sz11 Nn11 Hh11 G11 (fits_nar_byte _) W11 2 rfl (Nat.le_of_ble_eq_true rfl)
  have R12 : ∀ t, Steps p.tables e below (T11.setTop (mkF m 28 #[.val (.ref a1), .val (.int (0 : Int32)), .val (.long q3), .second] [])) t → Steps p.tables e below (s₁.setTop (mkF m 0 #[.val (.ref a1), .val (.int (0 : Int32)), .val (.long q3), .second] [])) t := fun t k => R10 t (st11 _ k)
  have R13 : ∀ t, Steps p.tables e below (T11.setTop (mkF m 38 #[.val (.ref a1), .val (.int (0 : Int32)), .val (.long q3), .second] [(.int (((((((q3).toUInt64 >>> ((24 : Int32) &&& 0x3f).toInt64.toUInt64).toInt64)).toInt32)).toInt8.toInt32)), (.int ((0 : Int32) + (3 : Int32))), (.ref a1)])) t → Steps p.tables e below (s₁.setTop (mkF m 0 #[.val (.ref a1), .val (.int (0 : Int32)), .val (.long q3), .second] [])) t := by
    intro t k
    refine R12 t ?_
    refine XS.aloadN X11.here hx rfl (hb hby d1_28) rfl rfl ?_
    refine XS.iloadN X11.here hx rfl (hb hby d1_29) rfl ?_
    refine XS.iconst X11.here hx rfl (hb hby d1_30) ?_
    refine XS.iadd X11.here hx rfl (hb hby d1_31) rfl ?_
    refine XS.lloadN X11.here hx rfl (hb hby d1_32) rfl ?_
    refine XS.bipush X11.here hx rfl (hb hby d1_33) ?_
    refine XS.lushr X11.here hx rfl (hb hby d1_35) rfl ?_
    refine XS.l2i X11.here hx rfl (hb hby d1_36) rfl ?_
    refine XS.i2b X11.here hx rfl (hb hby d1_37) rfl ?_
    exact k
  obtain ⟨cl14, Ar14, q14, Sz14, Nn14, Hh14, G14⟩ := V11
  have hin14 : ¬ (((0 : Int32) + (3 : Int32)) < 0 ∨ cl14.slots.size ≤ (((0 : Int32) + (3 : Int32))).toNatClampNeg) := inb_of Sz14 ⟨by decide, by decide⟩
  obtain ⟨T14, h14, X14, e14, W14, st14⟩ := stB X11 hx hZ e11 Ar14 (j := ((0 : Int32) + (3 : Int32))) hin14 (g := (mkF m 38 #[.val (.ref a1), .val (.int (0 : Int32)), .val (.long q3), .second] [(.int (((((((q3).toUInt64 >>> ((24 : Int32) &&& 0x3f).toInt64.toUInt64).toInt64)).toInt32)).toInt8.toInt32)), (.int ((0 : Int32) + (3 : Int32))), (.ref a1)])) rfl rfl (hb hby d1_38)
  have N14 := Fr.snoc X14 N11 n_a1
  have Z14 : n0 ≤ h14.size := Nat.le_trans Z11 (Keep.of_wr W14).1
  have K14 : Keep h0 h14 [a1] := K11.wr W14 (Or.inl (List.mem_of_getElem? (i := 0) rfl))
  have V14 : Arv Z h14 a1 k .byte (16 : Int32) [(.int (own_b0 q3)), (.int (own_b q3 (8 : Int32))), (.int (own_b q3 (16 : Int32))), (.int (own_b q3 (24 : Int32))), (.int (0 : Int32)), (.int (0 : Int32)), (.int (0 : Int32)), (.int (0 : Int32)), (.int (0 : Int32)), (.int (0 : Int32)), (.int (0 : Int32)), (.int (0 : Int32)), (.int (0 : Int32)), (.int (0 : Int32)), (.int (0 : Int32)), (.int (0 : Int32))] (.int (0 : Int32)) := Arv.set Ar14 q14 Sz14 Nn14 Hh14 G14 (fits_nar_byte _) W14 3 rfl (Nat.le_of_ble_eq_true rfl)
  have R15 : ∀ t, Steps p.tables e below (T14.setTop (mkF m 39 #[.val (.ref a1), .val (.int (0 : Int32)), .val (.long q3), .second] [])) t → Steps p.tables e below (s₁.setTop (mkF m 0 #[.val (.ref a1), .val (.int (0 : Int32)), .val (.long q3), .second] [])) t := fun t k => R13 t (st14 _ k)
  have R16 : ∀ t, Steps p.tables e below (T14.setTop (mkF m 49 #[.val (.ref a1), .val (.int (0 : Int32)), .val (.long q3), .second] [(.int (((((((q3).toUInt64 >>> ((32 : Int32) &&& 0x3f).toInt64.toUInt64).toInt64)).toInt32)).toInt8.toInt32)), (.int ((0 : Int32) + (4 : Int32))), (.ref a1)])) t → Steps p.tables e below (s₁.setTop (mkF m 0 #[.val (.ref a1), .val (.int (0 : Int32)), .val (.long q3), .second] [])) t := by
    intro t k
    refine R15 t ?_
    refine XS.aloadN X14.here hx rfl (hb hby d1_39) rfl rfl ?_
    refine XS.iloadN X14.here hx rfl (hb hby d1_40) rfl ?_
    refine XS.iconst X14.here hx rfl (hb hby d1_41) ?_
    refine XS.iadd X14.here hx rfl (hb hby d1_42) rfl ?_
    refine XS.lloadN X14.here hx rfl (hb hby d1_43) rfl ?_
    refine XS.bipush X14.here hx rfl (hb hby d1_44) ?_
    refine XS.lushr X14.here hx rfl (hb hby d1_46) rfl ?_
    refine XS.l2i X14.here hx rfl (hb hby d1_47) rfl ?_
    refine XS.i2b X14.here hx rfl (hb hby d1_48) rfl ?_
    exact k
  obtain ⟨cl17, Ar17, q17, Sz17, Nn17, Hh17, G17⟩ := V14
  have hin17 : ¬ (((0 : Int32) + (4 : Int32)) < 0 ∨ cl17.slots.size ≤ (((0 : Int32) + (4 : Int32))).toNatClampNeg) := inb_of Sz17 ⟨by decide, by decide⟩
  obtain ⟨T17, h17, X17, e17, W17, st17⟩ := stB X14 hx hZ e14 Ar17 (j := ((0 : Int32) + (4 : Int32))) hin17 (g := (mkF m 49 #[.val (.ref a1), .val (.int (0 : Int32)), .val (.long q3), .second] [(.int (((((((q3).toUInt64 >>> ((32 : Int32) &&& 0x3f).toInt64.toUInt64).toInt64)).toInt32)).toInt8.toInt32)), (.int ((0 : Int32) + (4 : Int32))), (.ref a1)])) rfl rfl (hb hby d1_49)
  have N17 := Fr.snoc X17 N14 n_a1
  have Z17 : n0 ≤ h17.size := Nat.le_trans Z14 (Keep.of_wr W17).1
  have K17 : Keep h0 h17 [a1] := K14.wr W17 (Or.inl (List.mem_of_getElem? (i := 0) rfl))
  have V17 : Arv Z h17 a1 k .byte (16 : Int32) [(.int (own_b0 q3)), (.int (own_b q3 (8 : Int32))), (.int (own_b q3 (16 : Int32))), (.int (own_b q3 (24 : Int32))), (.int (own_b q3 (32 : Int32))), (.int (0 : Int32)), (.int (0 : Int32)), (.int (0 : Int32)), (.int (0 : Int32)), (.int (0 : Int32)), (.int (0 : Int32)), (.int (0 : Int32)), (.int (0 : Int32)), (.int (0 : Int32)), (.int (0 : Int32)), (.int (0 : Int32))] (.int (0 : Int32)) := Arv.set Ar17 q17 Sz17 Nn17 Hh17 G17 (fits_nar_byte _) W17 4 rfl (Nat.le_of_ble_eq_true rfl)
  have R18 : ∀ t, Steps p.tables e below (T17.setTop (mkF m 50 #[.val (.ref a1), .val (.int (0 : Int32)), .val (.long q3), .second] [])) t → Steps p.tables e below (s₁.setTop (mkF m 0 #[.val (.ref a1), .val (.int (0 : Int32)), .val (.long q3), .second] [])) t := fun t k => R16 t (st17 _ k)
  have R19 : ∀ t, Steps p.tables e below (T17.setTop (mkF m 60 #[.val (.ref a1), .val (.int (0 : Int32)), .val (.long q3), .second] [(.int (((((((q3).toUInt64 >>> ((40 : Int32) &&& 0x3f).toInt64.toUInt64).toInt64)).toInt32)).toInt8.toInt32)), (.int ((0 : Int32) + (5 : Int32))), (.ref a1)])) t → Steps p.tables e below (s₁.setTop (mkF m 0 #[.val (.ref a1), .val (.int (0 : Int32)), .val (.long q3), .second] [])) t := by
    intro t k
    refine R18 t ?_
    refine XS.aloadN X17.here hx rfl (hb hby d1_50) rfl rfl ?_
    refine XS.iloadN X17.here hx rfl (hb hby d1_51) rfl ?_
    refine XS.iconst X17.here hx rfl (hb hby d1_52) ?_
    refine XS.iadd X17.here hx rfl (hb hby d1_53) rfl ?_
    refine XS.lloadN X17.here hx rfl (hb hby d1_54) rfl ?_
    refine XS.bipush X17.here hx rfl (hb hby d1_55) ?_
    refine XS.lushr X17.here hx rfl (hb hby d1_57) rfl ?_
    refine XS.l2i X17.here hx rfl (hb hby d1_58) rfl ?_
    refine XS.i2b X17.here hx rfl (hb hby d1_59) rfl ?_
    exact k
  obtain ⟨cl20, Ar20, q20, Sz20, Nn20, Hh20, G20⟩ := V17
  have hin20 : ¬ (((0 : Int32) + (5 : Int32)) < 0 ∨ cl20.slots.size ≤ (((0 : Int32) + (5 : Int32))).toNatClampNeg) := inb_of Sz20 ⟨by decide, by decide⟩
  obtain ⟨T20, h20, X20, e20, W20, st20⟩ := stB X17 hx hZ e17 Ar20 (j := ((0 : Int32) + (5 : Int32))) hin20 (g := (mkF m 60 #[.val (.ref a1), .val (.int (0 : Int32)), .val (.long q3), .second] [(.int (((((((q3).toUInt64 >>> ((40 : Int32) &&& 0x3f).toInt64.toUInt64).toInt64)).toInt32)).toInt8.toInt32)), (.int ((0 : Int32) + (5 : Int32))), (.ref a1)])) rfl rfl (hb hby d1_60)
  have N20 := Fr.snoc X20 N17 n_a1
  have Z20 : n0 ≤ h20.size := Nat.le_trans Z17 (Keep.of_wr W20).1
  have K20 : Keep h0 h20 [a1] := K17.wr W20 (Or.inl (List.mem_of_getElem? (i := 0) rfl))
  have V20 : Arv Z h20 a1 k .byte (16 : Int32) [(.int (own_b0 q3)), (.int (own_b q3 (8 : Int32))), (.int (own_b q3 (16 : Int32))), (.int (own_b q3 (24 : Int32))), (.int (own_b q3 (32 : Int32))), (.int (own_b q3 (40 : Int32))), (.int (0 : Int32)), (.int (0 : Int32)), (.int (0 : Int32)), (.int (0 : Int32)), (.int (0 : Int32)), (.int (0 : Int32)), (.int (0 : Int32)), (.int (0 : Int32)), (.int (0 : Int32)), (.int (0 : Int32))] (.int (0 : Int32)) := Arv.set Ar20 q20 Sz20 Nn20 Hh20 G20 (fits_nar_byte _) W20 5 rfl (Nat.le_of_ble_eq_true rfl)
  have R21 : ∀ t, Steps p.tables e below (T20.setTop (mkF m 61 #[.val (.ref a1), .val (.int (0 : Int32)), .val (.long q3), .second] [])) t → Steps p.tables e below (s₁.setTop (mkF m 0 #[.val (.ref a1), .val (.int (0 : Int32)), .val (.long q3), .second] [])) t := fun t k => R19 t (st20 _ k)
  have R22 : ∀ t, Steps p.tables e below (T20.setTop (mkF m 72 #[.val (.ref a1), .val (.int (0 : Int32)), .val (.long q3), .second] [(.int (((((((q3).toUInt64 >>> ((48 : Int32) &&& 0x3f).toInt64.toUInt64).toInt64)).toInt32)).toInt8.toInt32)), (.int ((0 : Int32) + (6 : Int32))), (.ref a1)])) t → Steps p.tables e below (s₁.setTop (mkF m 0 #[.val (.ref a1), .val (.int (0 : Int32)), .val (.long q3), .second] [])) t := by
    intro t k
    refine R21 t ?_
    refine XS.aloadN X20.here hx rfl (hb hby d1_61) rfl rfl ?_
    refine XS.iloadN X20.here hx rfl (hb hby d1_62) rfl ?_
    refine XS.bipush X20.here hx rfl (hb hby d1_63) ?_
    refine XS.iadd X20.here hx rfl (hb hby d1_65) rfl ?_
    refine XS.lloadN X20.here hx rfl (hb hby d1_66) rfl ?_
    refine XS.bipush X20.here hx rfl (hb hby d1_67) ?_
    refine XS.lushr X20.here hx rfl (hb hby d1_69) rfl ?_
    refine XS.l2i X20.here hx rfl (hb hby d1_70) rfl ?_
    refine XS.i2b X20.here hx rfl (hb hby d1_71) rfl ?_
    exact k
  obtain ⟨cl23, Ar23, q23, Sz23, Nn23, Hh23, G23⟩ := V20
  have hin23 : ¬ (((0 : Int32) + (6 : Int32)) < 0 ∨ cl23.slots.size ≤ (((0 : Int32) + (6 : Int32))).toNatClampNeg) := inb_of Sz23 ⟨by decide, by decide⟩
  obtain ⟨T23, h23, X23, e23, W23, st23⟩ := stB X20 hx hZ e20 Ar23 (j := ((0 : Int32) + (6 : Int32))) hin23 (g := (mkF m 72 #[.val (.ref a1), .val (.int (0 : Int32)), .val (.long q3), .second] [(.int (((((((q3).toUInt64 >>> ((48 : Int32) &&& 0x3f).toInt64.toUInt64).toInt64)).toInt32)).toInt8.toInt32)), (.int ((0 : Int32) + (6 : Int32))), (.ref a1)])) rfl rfl (hb hby d1_72)
  have N23 := Fr.snoc X23 N20 n_a1
  have Z23 : n0 ≤ h23.size := Nat.le_trans Z20 (Keep.of_wr W23).1
  have K23 : Keep h0 h23 [a1] := K20.wr W23 (Or.inl (List.mem_of_getElem? (i := 0) rfl))
  have V23 : Arv Z h23 a1 k .byte (16 : Int32) [(.int (own_b0 q3)), (.int (own_b q3 (8 : Int32))), (.int (own_b q3 (16 : Int32))), (.int (own_b q3 (24 : Int32))), (.int (own_b q3 (32 : Int32))), (.int (own_b q3 (40 : Int32))), (.int (own_b q3 (48 : Int32))), (.int (0 : Int32)), (.int (0 : Int32)), (.int (0 : Int32)), (.int (0 : Int32)), (.int (0 : Int32)), (.int (0 : Int32)), (.int (0 : Int32)), (.int (0 : Int32)), (.int (0 : Int32))] (.int (0 : Int32)) := Arv.set Ar23 q23 Sz23 Nn23 Hh23 G23 (fits_nar_byte _) W23 6 rfl (Nat.le_of_ble_eq_true rfl)
  have R24 : ∀ t, Steps p.tables e below (T23.setTop (mkF m 73 #[.val (.ref a1), .val (.int (0 : Int32)), .val (.long q3), .second] [])) t → Steps p.tables e below (s₁.setTop (mkF m 0 #[.val (.ref a1), .val (.int (0 : Int32)), .val (.long q3), .second] [])) t := fun t k => R22 t (st23 _ k)
  have R25 : ∀ t, Steps p.tables e below (T23.setTop (mkF m 84 #[.val (.ref a1), .val (.int (0 : Int32)), .val (.long q3), .second] [(.int (((((((q3).toUInt64 >>> ((56 : Int32) &&& 0x3f).toInt64.toUInt64).toInt64)).toInt32)).toInt8.toInt32)), (.int ((0 : Int32) + (7 : Int32))), (.ref a1)])) t → Steps p.tables e below (s₁.setTop (mkF m 0 #[.val (.ref a1), .val (.int (0 : Int32)), .val (.long q3), .second] [])) t := by
    intro t k
    refine R24 t ?_
    refine XS.aloadN X23.here hx rfl (hb hby d1_73) rfl rfl ?_
    refine XS.iloadN X23.here hx rfl (hb hby d1_74) rfl ?_
    refine XS.bipush X23.here hx rfl (hb hby d1_75) ?_
    refine XS.iadd X23.here hx rfl (hb hby d1_77) rfl ?_
    refine XS.lloadN X23.here hx rfl (hb hby d1_78) rfl ?_
    refine XS.bipush X23.here hx rfl (hb hby d1_79) ?_
    refine XS.lushr X23.here hx rfl (hb hby d1_81) rfl ?_
    refine XS.l2i X23.here hx rfl (hb hby d1_82) rfl ?_
    refine XS.i2b X23.here hx rfl (hb hby d1_83) rfl ?_
    exact k
  obtain ⟨cl26, Ar26, q26, Sz26, Nn26, Hh26, G26⟩ := V23
  have hin26 : ¬ (((0 : Int32) + (7 : Int32)) < 0 ∨ cl26.slots.size ≤ (((0 : Int32) + (7 : Int32))).toNatClampNeg) := inb_of Sz26 ⟨by decide, by decide⟩
  obtain ⟨T26, h26, X26, e26, W26, st26⟩ := stB X23 hx hZ e23 Ar26 (j := ((0 : Int32) + (7 : Int32))) hin26 (g := (mkF m 84 #[.val (.ref a1), .val (.int (0 : Int32)), .val (.long q3), .second] [(.int (((((((q3).toUInt64 >>> ((56 : Int32) &&& 0x3f).toInt64.toUInt64).toInt64)).toInt32)).toInt8.toInt32)), (.int ((0 : Int32) + (7 : Int32))), (.ref a1)])) rfl rfl (hb hby d1_84)
  have N26 := Fr.snoc X26 N23 n_a1
  have Z26 : n0 ≤ h26.size := Nat.le_trans Z23 (Keep.of_wr W26).1
  have K26 : Keep h0 h26 [a1] := K23.wr W26 (Or.inl (List.mem_of_getElem? (i := 0) rfl))
  have V26 : Arv Z h26 a1 k .byte (16 : Int32) [(.int (own_b0 q3)), (.int (own_b q3 (8 : Int32))), (.int (own_b q3 (16 : Int32))), (.int (own_b q3 (24 : Int32))), (.int (own_b q3 (32 : Int32))), (.int (own_b q3 (40 : Int32))), (.int (own_b q3 (48 : Int32))), (.int (own_b q3 (56 : Int32))), (.int (0 : Int32)), (.int (0 : Int32)), (.int (0 : Int32)), (.int (0 : Int32)), (.int (0 : Int32)), (.int (0 : Int32)), (.int (0 : Int32)), (.int (0 : Int32))] (.int (0 : Int32)) := Arv.set Ar26 q26 Sz26 Nn26 Hh26 G26 (fits_nar_byte _) W26 7 rfl (Nat.le_of_ble_eq_true rfl)
  have R27 : ∀ t, Steps p.tables e below (T26.setTop (mkF m 85 #[.val (.ref a1), .val (.int (0 : Int32)), .val (.long q3), .second] [])) t → Steps p.tables e below (s₁.setTop (mkF m 0 #[.val (.ref a1), .val (.int (0 : Int32)), .val (.long q3), .second] [])) t := fun t k => R25 t (st26 _ k)
  obtain ⟨fs, hr, hrun, hended, hW, hsame⟩ := X26.leave (v := none) (fun _ => rfl)
  refine ⟨_, _, pre0 _ (R27 _ (X26.returnOut hx Bd.returns (hb hby d1_85) hr)), hrun, hended, _, _, rfl, ?_, ⟨_, rfl⟩, hW, hsame.mono (by decide) (by decide)⟩
  show Q_rmp0 Z a1 q3 k h0 n0 _ T26.heap _
  rw [e26]
  exact ⟨rfl, N26, K26, V26⟩
theorem ef_rmp8 (m : MethodId) (x0 : Addr) (x1 : Int32) (x2 : Int64) : entryFrame m #[(.ref x0), (.int x1), (.long x2)] 4 = mkF m 0 #[.val (.ref x0), .val (.int x1), .val (.long x2), .second] [] := by first | (simp [entryFrame, mkF, argsToLocals, Value.category]; done) | rfl
def Q_rmp8 (Z : State) (a1 : Addr) (q3 : Int64) (k : ClassId) (v0 v1 v2 v3 v4 v5 v6 v7 : Value) (h0 : Heap) (n0 : Nat) (v : Option Value) (h : Heap) (L : List Loc) : Prop := v = none ∧ Fr n0 L ∧ Keep h0 h [a1] ∧ Arv Z h a1 k .byte (16 : Int32) [v0, v1, v2, v3, v4, v5, v6, v7, (.int (own_b0 q3)), (.int (own_b q3 (8 : Int32))), (.int (own_b q3 (16 : Int32))), (.int (own_b q3 (24 : Int32))), (.int (own_b q3 (32 : Int32))), (.int (own_b q3 (40 : Int32))), (.int (own_b q3 (48 : Int32))), (.int (own_b q3 (56 : Int32)))] (.int (0 : Int32))
set_option maxRecDepth 65536 in
set_option maxHeartbeats 40000000 in
theorem rmp8 (l : Launch) (Z : State) (a0 : Array Value) (hw : ∀ d ∈ tables_1, d.before a0 Z = true) (ws : List Jvm.Cond) (a1 : Addr) (q3 : Int64) (k : ClassId) (v0 v1 v2 v3 v4 v5 v6 v7 : Value) (h0 : Heap) (n0 : Nat) (Z0 : n0 ≤ h0.size) (V_0 : Arv Z h0 a1 k .byte (16 : Int32) [v0, v1, v2, v3, v4, v5, v6, v7, (.int (0 : Int32)), (.int (0 : Int32)), (.int (0 : Int32)), (.int (0 : Int32)), (.int (0 : Int32)), (.int (0 : Int32)), (.int (0 : Int32)), (.int (0 : Int32))] (.int (0 : Int32))) (n_a1 : n0 ≤ a1) :
    MetFree l (⟨"com/example/rigorous_bytecode/rigorousbytecode/dex/ArrayDataPayloadElementPinLaw", "put", "([BIJ)V"⟩ : MethodName) (head1 (Jvm.Cond.code (⟨"com/example/rigorous_bytecode/rigorousbytecode/dex/ArrayDataPayloadElementPinLaw", "put", "([BIJ)V"⟩ : MethodName) method_3_code 4 none :: ws) ({ frames := 0, cells := 0, slots := 0, locals := 0 } : Room)) (fun a U => a = #[(.ref a1), (.int (8 : Int32)), (.long q3)] ∧ Z.Warmed39 U.vm ∧ U.heap = h0) (fun _ _ _ _ _ => True) (fun _ U o U' => ∃ v L, o = .returned v ∧ Q_rmp8 Z a1 q3 k v0 v1 v2 v3 v4 v5 v6 v7 h0 n0 v U'.heap L ∧ FrameEnd U o U' L ({ frames := 0, cells := 0, slots := 0, locals := 0 } : Room).cells ({ frames := 0, cells := 0, slots := 0, locals := 0 } : Room).slots) := by
  refine MetFree.of_bodySF (plainFor_of_name pn_1) hisR ?_
  intro p e s m args below meth c s₁ Bd hml0 hP hK
  obtain ⟨rfl, hZ, hh⟩ := hP
  have hx := Bd.exec
  have hby := Bd.bytes
  have hml : c.maxLocals = 4 := hml0
  have hown : s.vm.findClass "com/example/rigorous_bytecode/rigorousbytecode/dex/ArrayDataPayloadElementPinLaw" = some m.cls := findClass_of_methodNamed Bd.named
  have hnm := (name_of_methodNamed Bd.named Bd.method).1
  have X0 : Stand p l e ({ frames := 0, cells := 0, slots := 0, locals := 0 } : Room) s m #[(.ref a1), (.int (8 : Int32)), (.long q3)] below meth c s₁ [] 0 0 := Stand.of_body Bd
  have e0 : s₁.heap = h0 := by rw [← hh, Bd.state]; rfl
  have N0 := Fr.nil n0
  have pre0 : ∀ t, Steps p.tables e below (s₁.setTop (mkF m 0 #[.val (.ref a1), .val (.int (8 : Int32)), .val (.long q3), .second] [])) t → Steps p.tables e below (s₁.setTop (entryFrame m #[(.ref a1), (.int (8 : Int32)), (.long q3)] 4)) t := fun t k => castTop (ef_rmp8 m a1 (8 : Int32) q3) k
  have R0 : ∀ t, Steps p.tables e below (s₁.setTop (mkF m 0 #[.val (.ref a1), .val (.int (8 : Int32)), .val (.long q3), .second] [])) t → Steps p.tables e below (s₁.setTop (mkF m 0 #[.val (.ref a1), .val (.int (8 : Int32)), .val (.long q3), .second] [])) t := fun _ k => k
  have R28 : ∀ t, Steps p.tables e below (s₁.setTop (mkF m 5 #[.val (.ref a1), .val (.int (8 : Int32)), .val (.long q3), .second] [(.int ((((q3).toInt32)).toInt8.toInt32)), (.int (8 : Int32)), (.ref a1)])) t → Steps p.tables e below (s₁.setTop (mkF m 0 #[.val (.ref a1), .val (.int (8 : Int32)), .val (.long q3), .second] [])) t := by
    intro t k
    refine R0 t ?_
    refine XS.aloadN X0.here hx rfl (hb hby d1_0) rfl rfl ?_
    refine XS.iloadN X0.here hx rfl (hb hby d1_1) rfl ?_
    refine XS.lloadN X0.here hx rfl (hb hby d1_2) rfl ?_
    refine XS.l2i X0.here hx rfl (hb hby d1_3) rfl ?_
    refine XS.i2b X0.here hx rfl (hb hby d1_4) rfl ?_
    exact k
  obtain ⟨cl29, Ar29, q29, Sz29, Nn29, Hh29, G29⟩ := V_0
  have hin29 : ¬ ((8 : Int32) < 0 ∨ cl29.slots.size ≤ ((8 : Int32)).toNatClampNeg) := inb_of Sz29 ⟨by decide, by decide⟩
  obtain ⟨T29, h29, X29, e29, W29, st29⟩ := stB X0 hx hZ e0 Ar29 (j := (8 : Int32)) hin29 (g := (mkF m 5 #[.val (.ref a1), .val (.int (8 : Int32)), .val (.long q3), .second] [(.int ((((q3).toInt32)).toInt8.toInt32)), (.int (8 : Int32)), (.ref a1)])) rfl rfl (hb hby d1_5)
  have N29 := Fr.snoc X29 N0 n_a1
  have Z29 : n0 ≤ h29.size := Nat.le_trans Z0 (Keep.of_wr W29).1
  have K29 : Keep h0 h29 [a1] := (Keep.refl h0 [a1]).wr W29 (Or.inl (List.mem_of_getElem? (i := 0) rfl))
  have V29 : Arv Z h29 a1 k .byte (16 : Int32) [v0, v1, v2, v3, v4, v5, v6, v7, (.int (own_b0 q3)), (.int (0 : Int32)), (.int (0 : Int32)), (.int (0 : Int32)), (.int (0 : Int32)), (.int (0 : Int32)), (.int (0 : Int32)), (.int (0 : Int32))] (.int (0 : Int32)) := Arv.set Ar29 q29 Sz29 Nn29 Hh29 G29 (fits_nar_byte _) W29 8 rfl (Nat.le_of_ble_eq_true rfl)
  have R30 : ∀ t, Steps p.tables e below (T29.setTop (mkF m 6 #[.val (.ref a1), .val (.int (8 : Int32)), .val (.long q3), .second] [])) t → Steps p.tables e below (s₁.setTop (mkF m 0 #[.val (.ref a1), .val (.int (8 : Int32)), .val (.long q3), .second] [])) t := fun t k => R28 t (st29 _ k)
  have R31 : ∀ t, Steps p.tables e below (T29.setTop (mkF m 16 #[.val (.ref a1), .val (.int (8 : Int32)), .val (.long q3), .second] [(.int (((((((q3).toUInt64 >>> ((8 : Int32) &&& 0x3f).toInt64.toUInt64).toInt64)).toInt32)).toInt8.toInt32)), (.int ((8 : Int32) + (1 : Int32))), (.ref a1)])) t → Steps p.tables e below (s₁.setTop (mkF m 0 #[.val (.ref a1), .val (.int (8 : Int32)), .val (.long q3), .second] [])) t := by
    intro t k
    refine R30 t ?_
    refine XS.aloadN X29.here hx rfl (hb hby d1_6) rfl rfl ?_
    refine XS.iloadN X29.here hx rfl (hb hby d1_7) rfl ?_
    refine XS.iconst X29.here hx rfl (hb hby d1_8) ?_
    refine XS.iadd X29.here hx rfl (hb hby d1_9) rfl ?_
    refine XS.lloadN X29.here hx rfl (hb hby d1_10) rfl ?_
    refine XS.bipush X29.here hx rfl (hb hby d1_11) ?_
    refine XS.lushr X29.here hx rfl (hb hby d1_13) rfl ?_
    refine XS.l2i X29.here hx rfl (hb hby d1_14) rfl ?_
    refine XS.i2b X29.here hx rfl (hb hby d1_15) rfl ?_
    exact k
  obtain ⟨cl32, Ar32, q32, Sz32, Nn32, Hh32, G32⟩ := V29
  have hin32 : ¬ (((8 : Int32) + (1 : Int32)) < 0 ∨ cl32.slots.size ≤ (((8 : Int32) + (1 : Int32))).toNatClampNeg) := inb_of Sz32 ⟨by decide, by decide⟩
  obtain ⟨T32, h32, X32, e32, W32, st32⟩ := stB X29 hx hZ e29 Ar32 (j := ((8 : Int32) + (1 : Int32))) hin32 (g := (mkF m 16 #[.val (.ref a1), .val (.int (8 : Int32)), .val (.long q3), .second] [(.int (((((((q3).toUInt64 >>> ((8 : Int32) &&& 0x3f).toInt64.toUInt64).toInt64)).toInt32)).toInt8.toInt32)), (.int ((8 : Int32) + (1 : Int32))), (.ref a1)])) rfl rfl (hb hby d1_16)
  have N32 := Fr.snoc X32 N29 n_a1
  have Z32 : n0 ≤ h32.size := Nat.le_trans Z29 (Keep.of_wr W32).1
  have K32 : Keep h0 h32 [a1] := K29.wr W32 (Or.inl (List.mem_of_getElem? (i := 0) rfl))
  have V32 : Arv Z h32 a1 k .byte (16 : Int32) [v0, v1, v2, v3, v4, v5, v6, v7, (.int (own_b0 q3)), (.int (own_b q3 (8 : Int32))), (.int (0 : Int32)), (.int (0 : Int32)), (.int (0 : Int32)), (.int (0 : Int32)), (.int (0 : Int32)), (.int (0 : Int32))] (.int (0 : Int32)) := Arv.set Ar32 q32 Sz32 Nn32 Hh32 G32 (fits_nar_byte _) W32 9 rfl (Nat.le_of_ble_eq_true rfl)
  have R33 : ∀ t, Steps p.tables e below (T32.setTop (mkF m 17 #[.val (.ref a1), .val (.int (8 : Int32)), .val (.long q3), .second] [])) t → Steps p.tables e below (s₁.setTop (mkF m 0 #[.val (.ref a1), .val (.int (8 : Int32)), .val (.long q3), .second] [])) t := fun t k => R31 t (st32 _ k)
  have R34 : ∀ t, Steps p.tables e below (T32.setTop (mkF m 27 #[.val (.ref a1), .val (.int (8 : Int32)), .val (.long q3), .second] [(.int (((((((q3).toUInt64 >>> ((16 : Int32) &&& 0x3f).toInt64.toUInt64).toInt64)).toInt32)).toInt8.toInt32)), (.int ((8 : Int32) + (2 : Int32))), (.ref a1)])) t → Steps p.tables e below (s₁.setTop (mkF m 0 #[.val (.ref a1), .val (.int (8 : Int32)), .val (.long q3), .second] [])) t := by
    intro t k
    refine R33 t ?_
    refine XS.aloadN X32.here hx rfl (hb hby d1_17) rfl rfl ?_
    refine XS.iloadN X32.here hx rfl (hb hby d1_18) rfl ?_
    refine XS.iconst X32.here hx rfl (hb hby d1_19) ?_
    refine XS.iadd X32.here hx rfl (hb hby d1_20) rfl ?_
    refine XS.lloadN X32.here hx rfl (hb hby d1_21) rfl ?_
    refine XS.bipush X32.here hx rfl (hb hby d1_22) ?_
    refine XS.lushr X32.here hx rfl (hb hby d1_24) rfl ?_
    refine XS.l2i X32.here hx rfl (hb hby d1_25) rfl ?_
    refine XS.i2b X32.here hx rfl (hb hby d1_26) rfl ?_
    exact k
  obtain ⟨cl35, Ar35, q35, Sz35, Nn35, Hh35, G35⟩ := V32
  have hin35 : ¬ (((8 : Int32) + (2 : Int32)) < 0 ∨ cl35.slots.size ≤ (((8 : Int32) + (2 : Int32))).toNatClampNeg) := inb_of Sz35 ⟨by decide, by decide⟩
  obtain ⟨T35, h35, X35, e35, W35, st35⟩ := stB X32 hx hZ e32 Ar35 (j := ((8 : Int32) + (2 : Int32))) hin35 (g := (mkF m 27 #[.val (.ref a1), .val (.int (8 : Int32)), .val (.long q3), .second] [(.int (((((((q3).toUInt64 >>> ((16 : Int32) &&& 0x3f).toInt64.toUInt64).toInt64)).toInt32)).toInt8.toInt32)), (.int ((8 : Int32) + (2 : Int32))), (.ref a1)])) rfl rfl (hb hby d1_27)
  have N35 := Fr.snoc X35 N32 n_a1
  have Z35 : n0 ≤ h35.size := Nat.le_trans Z32 (Keep.of_wr W35).1
  have K35 : Keep h0 h35 [a1] := K32.wr W35 (Or.inl (List.mem_of_getElem? (i := 0) rfl))
  have V35 : Arv Z h35 a1 k .byte (16 : Int32) [v0, v1, v2, v3, v4, v5, v6, v7, (.int (own_b0 q3)), (.int (own_b q3 (8 : Int32))), (.int (own_b q3 (16 : Int32))), (.int (0 : Int32)), (.int (0 : Int32)), (.int (0 : Int32)), (.int (0 : Int32)), (.int (0 : Int32))] (.int (0 : Int32)) := Arv.set Ar35 q35 Sz35 Nn35 Hh35 G35 (fits_nar_byte _) W35 10 rfl (Nat.le_of_ble_eq_true rfl)
  have R36 : ∀ t, Steps p.tables e below (T35.setTop (mkF m 28 #[.val (.ref a1), .val (.int (8 : Int32)), .val (.long q3), .second] [])) t → Steps p.tables e below (s₁.setTop (mkF m 0 #[.val (.ref a1), .val (.int (8 : Int32)), .val (.long q3), .second] [])) t := fun t k => R34 t (st35 _ k)
  have R37 : ∀ t, Steps p.tables e below (T35.setTop (mkF m 38 #[.val (.ref a1), .val (.int (8 : Int32)), .val (.long q3), .second] [(.int (((((((q3).toUInt64 >>> ((24 : Int32) &&& 0x3f).toInt64.toUInt64).toInt64)).toInt32)).toInt8.toInt32)), (.int ((8 : Int32) + (3 : Int32))), (.ref a1)])) t → Steps p.tables e below (s₁.setTop (mkF m 0 #[.val (.ref a1), .val (.int (8 : Int32)), .val (.long q3), .second] [])) t := by
    intro t k
    refine R36 t ?_
    refine XS.aloadN X35.here hx rfl (hb hby d1_28) rfl rfl ?_
    refine XS.iloadN X35.here hx rfl (hb hby d1_29) rfl ?_
    refine XS.iconst X35.here hx rfl (hb hby d1_30) ?_
    refine XS.iadd X35.here hx rfl (hb hby d1_31) rfl ?_
    refine XS.lloadN X35.here hx rfl (hb hby d1_32) rfl ?_
    refine XS.bipush X35.here hx rfl (hb hby d1_33) ?_
    refine XS.lushr X35.here hx rfl (hb hby d1_35) rfl ?_
    refine XS.l2i X35.here hx rfl (hb hby d1_36) rfl ?_
    refine XS.i2b X35.here hx rfl (hb hby d1_37) rfl ?_
    exact k
  obtain ⟨cl38, Ar38, q38, Sz38, Nn38, Hh38, G38⟩ := V35
  have hin38 : ¬ (((8 : Int32) + (3 : Int32)) < 0 ∨ cl38.slots.size ≤ (((8 : Int32) + (3 : Int32))).toNatClampNeg) := inb_of Sz38 ⟨by decide, by decide⟩
  obtain ⟨T38, h38, X38, e38, W38, st38⟩ := stB X35 hx hZ e35 Ar38 (j := ((8 : Int32) + (3 : Int32))) hin38 (g := (mkF m 38 #[.val (.ref a1), .val (.int (8 : Int32)), .val (.long q3), .second] [(.int (((((((q3).toUInt64 >>> ((24 : Int32) &&& 0x3f).toInt64.toUInt64).toInt64)).toInt32)).toInt8.toInt32)), (.int ((8 : Int32) + (3 : Int32))), (.ref a1)])) rfl rfl (hb hby d1_38)
  have N38 := Fr.snoc X38 N35 n_a1
  have Z38 : n0 ≤ h38.size := Nat.le_trans Z35 (Keep.of_wr W38).1
  have K38 : Keep h0 h38 [a1] := K35.wr W38 (Or.inl (List.mem_of_getElem? (i := 0) rfl))
  have V38 : Arv Z h38 a1 k .byte (16 : Int32) [v0, v1, v2, v3, v4, v5, v6, v7, (.int (own_b0 q3)), (.int (own_b q3 (8 : Int32))), (.int (own_b q3 (16 : Int32))), (.int (own_b q3 (24 : Int32))), (.int (0 : Int32)), (.int (0 : Int32)), (.int (0 : Int32)), (.int (0 : Int32))] (.int (0 : Int32)) := Arv.set Ar38 q38 Sz38 Nn38 Hh38 G38 (fits_nar_byte _) W38 11 rfl (Nat.le_of_ble_eq_true rfl)
  have R39 : ∀ t, Steps p.tables e below (T38.setTop (mkF m 39 #[.val (.ref a1), .val (.int (8 : Int32)), .val (.long q3), .second] [])) t → Steps p.tables e below (s₁.setTop (mkF m 0 #[.val (.ref a1), .val (.int (8 : Int32)), .val (.long q3), .second] [])) t := fun t k => R37 t (st38 _ k)
  have R40 : ∀ t, Steps p.tables e below (T38.setTop (mkF m 49 #[.val (.ref a1), .val (.int (8 : Int32)), .val (.long q3), .second] [(.int (((((((q3).toUInt64 >>> ((32 : Int32) &&& 0x3f).toInt64.toUInt64).toInt64)).toInt32)).toInt8.toInt32)), (.int ((8 : Int32) + (4 : Int32))), (.ref a1)])) t → Steps p.tables e below (s₁.setTop (mkF m 0 #[.val (.ref a1), .val (.int (8 : Int32)), .val (.long q3), .second] [])) t := by
    intro t k
    refine R39 t ?_
    refine XS.aloadN X38.here hx rfl (hb hby d1_39) rfl rfl ?_
    refine XS.iloadN X38.here hx rfl (hb hby d1_40) rfl ?_
    refine XS.iconst X38.here hx rfl (hb hby d1_41) ?_
    refine XS.iadd X38.here hx rfl (hb hby d1_42) rfl ?_
    refine XS.lloadN X38.here hx rfl (hb hby d1_43) rfl ?_
    refine XS.bipush X38.here hx rfl (hb hby d1_44) ?_
    refine XS.lushr X38.here hx rfl (hb hby d1_46) rfl ?_
    refine XS.l2i X38.here hx rfl (hb hby d1_47) rfl ?_
    refine XS.i2b X38.here hx rfl (hb hby d1_48) rfl ?_
    exact k
  obtain ⟨cl41, Ar41, q41, Sz41, Nn41, Hh41, G41⟩ := V38
  have hin41 : ¬ (((8 : Int32) + (4 : Int32)) < 0 ∨ cl41.slots.size ≤ (((8 : Int32) + (4 : Int32))).toNatClampNeg) := inb_of Sz41 ⟨by decide, by decide⟩
  obtain ⟨T41, h41, X41, e41, W41, st41⟩ := stB X38 hx hZ e38 Ar41 (j := ((8 : Int32) + (4 : Int32))) hin41 (g := (mkF m 49 #[.val (.ref a1), .val (.int (8 : Int32)), .val (.long q3), .second] [(.int (((((((q3).toUInt64 >>> ((32 : Int32) &&& 0x3f).toInt64.toUInt64).toInt64)).toInt32)).toInt8.toInt32)), (.int ((8 : Int32) + (4 : Int32))), (.ref a1)])) rfl rfl (hb hby d1_49)
  have N41 := Fr.snoc X41 N38 n_a1
  have Z41 : n0 ≤ h41.size := Nat.le_trans Z38 (Keep.of_wr W41).1
  have K41 : Keep h0 h41 [a1] := K38.wr W41 (Or.inl (List.mem_of_getElem? (i := 0) rfl))
  have V41 : Arv Z h41 a1 k .byte (16 : Int32) [v0, v1, v2, v3, v4, v5, v6, v7, (.int (own_b0 q3)), (.int (own_b q3 (8 : Int32))), (.int (own_b q3 (16 : Int32))), (.int (own_b q3 (24 : Int32))), (.int (own_b q3 (32 : Int32))), (.int (0 : Int32)), (.int (0 : Int32)), (.int (0 : Int32))] (.int (0 : Int32)) := Arv.set Ar41 q41 Sz41 Nn41 Hh41 G41 (fits_nar_byte _) W41 12 rfl (Nat.le_of_ble_eq_true rfl)
  have R42 : ∀ t, Steps p.tables e below (T41.setTop (mkF m 50 #[.val (.ref a1), .val (.int (8 : Int32)), .val (.long q3), .second] [])) t → Steps p.tables e below (s₁.setTop (mkF m 0 #[.val (.ref a1), .val (.int (8 : Int32)), .val (.long q3), .second] [])) t := fun t k => R40 t (st41 _ k)
  have R43 : ∀ t, Steps p.tables e below (T41.setTop (mkF m 60 #[.val (.ref a1), .val (.int (8 : Int32)), .val (.long q3), .second] [(.int (((((((q3).toUInt64 >>> ((40 : Int32) &&& 0x3f).toInt64.toUInt64).toInt64)).toInt32)).toInt8.toInt32)), (.int ((8 : Int32) + (5 : Int32))), (.ref a1)])) t → Steps p.tables e below (s₁.setTop (mkF m 0 #[.val (.ref a1), .val (.int (8 : Int32)), .val (.long q3), .second] [])) t := by
    intro t k
    refine R42 t ?_
    refine XS.aloadN X41.here hx rfl (hb hby d1_50) rfl rfl ?_
    refine XS.iloadN X41.here hx rfl (hb hby d1_51) rfl ?_
    refine XS.iconst X41.here hx rfl (hb hby d1_52) ?_
    refine XS.iadd X41.here hx rfl (hb hby d1_53) rfl ?_
    refine XS.lloadN X41.here hx rfl (hb hby d1_54) rfl ?_
    refine XS.bipush X41.here hx rfl (hb hby d1_55) ?_
    refine XS.lushr X41.here hx rfl (hb hby d1_57) rfl ?_
    refine XS.l2i X41.here hx rfl (hb hby d1_58) rfl ?_
    refine XS.i2b X41.here hx rfl (hb hby d1_59) rfl ?_
    exact k
  obtain ⟨cl44, Ar44, q44, Sz44, Nn44, Hh44, G44⟩ := V41
  have hin44 : ¬ (((8 : Int32) + (5 : Int32)) < 0 ∨ cl44.slots.size ≤ (((8 : Int32) + (5 : Int32))).toNatClampNeg) := inb_of Sz44 ⟨by decide, by decide⟩
  obtain ⟨T44, h44, X44, e44, W44, st44⟩ := stB X41 hx hZ e41 Ar44 (j := ((8 : Int32) + (5 : Int32))) hin44 (g := (mkF m 60 #[.val (.ref a1), .val (.int (8 : Int32)), .val (.long q3), .second] [(.int (((((((q3).toUInt64 >>> ((40 : Int32) &&& 0x3f).toInt64.toUInt64).toInt64)).toInt32)).toInt8.toInt32)), (.int ((8 : Int32) + (5 : Int32))), (.ref a1)])) rfl rfl (hb hby d1_60)
  have N44 := Fr.snoc X44 N41 n_a1
  have Z44 : n0 ≤ h44.size := Nat.le_trans Z41 (Keep.of_wr W44).1
  have K44 : Keep h0 h44 [a1] := K41.wr W44 (Or.inl (List.mem_of_getElem? (i := 0) rfl))
  have V44 : Arv Z h44 a1 k .byte (16 : Int32) [v0, v1, v2, v3, v4, v5, v6, v7, (.int (own_b0 q3)), (.int (own_b q3 (8 : Int32))), (.int (own_b q3 (16 : Int32))), (.int (own_b q3 (24 : Int32))), (.int (own_b q3 (32 : Int32))), (.int (own_b q3 (40 : Int32))), (.int (0 : Int32)), (.int (0 : Int32))] (.int (0 : Int32)) := Arv.set Ar44 q44 Sz44 Nn44 Hh44 G44 (fits_nar_byte _) W44 13 rfl (Nat.le_of_ble_eq_true rfl)
  have R45 : ∀ t, Steps p.tables e below (T44.setTop (mkF m 61 #[.val (.ref a1), .val (.int (8 : Int32)), .val (.long q3), .second] [])) t → Steps p.tables e below (s₁.setTop (mkF m 0 #[.val (.ref a1), .val (.int (8 : Int32)), .val (.long q3), .second] [])) t := fun t k => R43 t (st44 _ k)
  have R46 : ∀ t, Steps p.tables e below (T44.setTop (mkF m 72 #[.val (.ref a1), .val (.int (8 : Int32)), .val (.long q3), .second] [(.int (((((((q3).toUInt64 >>> ((48 : Int32) &&& 0x3f).toInt64.toUInt64).toInt64)).toInt32)).toInt8.toInt32)), (.int ((8 : Int32) + (6 : Int32))), (.ref a1)])) t → Steps p.tables e below (s₁.setTop (mkF m 0 #[.val (.ref a1), .val (.int (8 : Int32)), .val (.long q3), .second] [])) t := by
    intro t k
    refine R45 t ?_
    refine XS.aloadN X44.here hx rfl (hb hby d1_61) rfl rfl ?_
    refine XS.iloadN X44.here hx rfl (hb hby d1_62) rfl ?_
    refine XS.bipush X44.here hx rfl (hb hby d1_63) ?_
    refine XS.iadd X44.here hx rfl (hb hby d1_65) rfl ?_
    refine XS.lloadN X44.here hx rfl (hb hby d1_66) rfl ?_
    refine XS.bipush X44.here hx rfl (hb hby d1_67) ?_
    refine XS.lushr X44.here hx rfl (hb hby d1_69) rfl ?_
    refine XS.l2i X44.here hx rfl (hb hby d1_70) rfl ?_
    refine XS.i2b X44.here hx rfl (hb hby d1_71) rfl ?_
    exact k
  obtain ⟨cl47, Ar47, q47, Sz47, Nn47, Hh47, G47⟩ := V44
  have hin47 : ¬ (((8 : Int32) + (6 : Int32)) < 0 ∨ cl47.slots.size ≤ (((8 : Int32) + (6 : Int32))).toNatClampNeg) := inb_of Sz47 ⟨by decide, by decide⟩
  obtain ⟨T47, h47, X47, e47, W47, st47⟩ := stB X44 hx hZ e44 Ar47 (j := ((8 : Int32) + (6 : Int32))) hin47 (g := (mkF m 72 #[.val (.ref a1), .val (.int (8 : Int32)), .val (.long q3), .second] [(.int (((((((q3).toUInt64 >>> ((48 : Int32) &&& 0x3f).toInt64.toUInt64).toInt64)).toInt32)).toInt8.toInt32)), (.int ((8 : Int32) + (6 : Int32))), (.ref a1)])) rfl rfl (hb hby d1_72)
  have N47 := Fr.snoc X47 N44 n_a1
  have Z47 : n0 ≤ h47.size := Nat.le_trans Z44 (Keep.of_wr W47).1
  have K47 : Keep h0 h47 [a1] := K44.wr W47 (Or.inl (List.mem_of_getElem? (i := 0) rfl))
  have V47 : Arv Z h47 a1 k .byte (16 : Int32) [v0, v1, v2, v3, v4, v5, v6, v7, (.int (own_b0 q3)), (.int (own_b q3 (8 : Int32))), (.int (own_b q3 (16 : Int32))), (.int (own_b q3 (24 : Int32))), (.int (own_b q3 (32 : Int32))), (.int (own_b q3 (40 : Int32))), (.int (own_b q3 (48 : Int32))), (.int (0 : Int32))] (.int (0 : Int32)) := Arv.set Ar47 q47 Sz47 Nn47 Hh47 G47 (fits_nar_byte _) W47 14 rfl (Nat.le_of_ble_eq_true rfl)
  have R48 : ∀ t, Steps p.tables e below (T47.setTop (mkF m 73 #[.val (.ref a1), .val (.int (8 : Int32)), .val (.long q3), .second] [])) t → Steps p.tables e below (s₁.setTop (mkF m 0 #[.val (.ref a1), .val (.int (8 : Int32)), .val (.long q3), .second] [])) t := fun t k => R46 t (st47 _ k)
  have R49 : ∀ t, Steps p.tables e below (T47.setTop (mkF m 84 #[.val (.ref a1), .val (.int (8 : Int32)), .val (.long q3), .second] [(.int (((((((q3).toUInt64 >>> ((56 : Int32) &&& 0x3f).toInt64.toUInt64).toInt64)).toInt32)).toInt8.toInt32)), (.int ((8 : Int32) + (7 : Int32))), (.ref a1)])) t → Steps p.tables e below (s₁.setTop (mkF m 0 #[.val (.ref a1), .val (.int (8 : Int32)), .val (.long q3), .second] [])) t := by
    intro t k
    refine R48 t ?_
    refine XS.aloadN X47.here hx rfl (hb hby d1_73) rfl rfl ?_
    refine XS.iloadN X47.here hx rfl (hb hby d1_74) rfl ?_
    refine XS.bipush X47.here hx rfl (hb hby d1_75) ?_
    refine XS.iadd X47.here hx rfl (hb hby d1_77) rfl ?_
    refine XS.lloadN X47.here hx rfl (hb hby d1_78) rfl ?_
    refine XS.bipush X47.here hx rfl (hb hby d1_79) ?_
    refine XS.lushr X47.here hx rfl (hb hby d1_81) rfl ?_
    refine XS.l2i X47.here hx rfl (hb hby d1_82) rfl ?_
    refine XS.i2b X47.here hx rfl (hb hby d1_83) rfl ?_
    exact k
  obtain ⟨cl50, Ar50, q50, Sz50, Nn50, Hh50, G50⟩ := V47
  have hin50 : ¬ (((8 : Int32) + (7 : Int32)) < 0 ∨ cl50.slots.size ≤ (((8 : Int32) + (7 : Int32))).toNatClampNeg) := inb_of Sz50 ⟨by decide, by decide⟩
  obtain ⟨T50, h50, X50, e50, W50, st50⟩ := stB X47 hx hZ e47 Ar50 (j := ((8 : Int32) + (7 : Int32))) hin50 (g := (mkF m 84 #[.val (.ref a1), .val (.int (8 : Int32)), .val (.long q3), .second] [(.int (((((((q3).toUInt64 >>> ((56 : Int32) &&& 0x3f).toInt64.toUInt64).toInt64)).toInt32)).toInt8.toInt32)), (.int ((8 : Int32) + (7 : Int32))), (.ref a1)])) rfl rfl (hb hby d1_84)
  have N50 := Fr.snoc X50 N47 n_a1
  have Z50 : n0 ≤ h50.size := Nat.le_trans Z47 (Keep.of_wr W50).1
  have K50 : Keep h0 h50 [a1] := K47.wr W50 (Or.inl (List.mem_of_getElem? (i := 0) rfl))
  have V50 : Arv Z h50 a1 k .byte (16 : Int32) [v0, v1, v2, v3, v4, v5, v6, v7, (.int (own_b0 q3)), (.int (own_b q3 (8 : Int32))), (.int (own_b q3 (16 : Int32))), (.int (own_b q3 (24 : Int32))), (.int (own_b q3 (32 : Int32))), (.int (own_b q3 (40 : Int32))), (.int (own_b q3 (48 : Int32))), (.int (own_b q3 (56 : Int32)))] (.int (0 : Int32)) := Arv.set Ar50 q50 Sz50 Nn50 Hh50 G50 (fits_nar_byte _) W50 15 rfl (Nat.le_of_ble_eq_true rfl)
  have R51 : ∀ t, Steps p.tables e below (T50.setTop (mkF m 85 #[.val (.ref a1), .val (.int (8 : Int32)), .val (.long q3), .second] [])) t → Steps p.tables e below (s₁.setTop (mkF m 0 #[.val (.ref a1), .val (.int (8 : Int32)), .val (.long q3), .second] [])) t := fun t k => R49 t (st50 _ k)
  obtain ⟨fs, hr, hrun, hended, hW, hsame⟩ := X50.leave (v := none) (fun _ => rfl)
  refine ⟨_, _, pre0 _ (R51 _ (X50.returnOut hx Bd.returns (hb hby d1_85) hr)), hrun, hended, _, _, rfl, ?_, ⟨_, rfl⟩, hW, hsame.mono (by decide) (by decide)⟩
  show Q_rmp8 Z a1 q3 k v0 v1 v2 v3 v4 v5 v6 v7 h0 n0 _ T50.heap _
  rw [e50]
  exact ⟨rfl, N50, K50, V50⟩
theorem d2_0 : decode prog_44_method_1_code 0 = .ok (.aload_n 0, 1) := by decide +kernel
theorem d2_1 : decode prog_44_method_1_code 1 = .ok (.invokespecial 1, 3) := by decide +kernel
theorem d2_4 : decode prog_44_method_1_code 4 = .ok (.aload_n 0, 1) := by decide +kernel
theorem d2_5 : decode prog_44_method_1_code 5 = .ok (.iload_n 1, 1) := by decide +kernel
theorem d2_6 : decode prog_44_method_1_code 6 = .ok (.putfield 7, 3) := by decide +kernel
theorem d2_9 : decode prog_44_method_1_code 9 = .ok (.aload_n 0, 1) := by decide +kernel
theorem d2_10 : decode prog_44_method_1_code 10 = .ok (.iload_n 2, 1) := by decide +kernel
theorem d2_11 : decode prog_44_method_1_code 11 = .ok (.putfield 13, 3) := by decide +kernel
theorem d2_14 : decode prog_44_method_1_code 14 = .ok (.aload_n 0, 1) := by decide +kernel
theorem d2_15 : decode prog_44_method_1_code 15 = .ok (.aload_n 3, 1) := by decide +kernel
theorem d2_16 : decode prog_44_method_1_code 16 = .ok (.putfield 16, 3) := by decide +kernel
theorem d2_19 : decode prog_44_method_1_code 19 = .ok (.return_, 1) := by decide +kernel
theorem pn_2 : plainName "com/example/rigorous_bytecode/rigorousbytecode/dex/ArrayDataPayload" = true := by first | (simp [plainName, overriddenIn]; done) | decide +kernel
theorem pd_0 : parseMethodDescriptor "()V" = some ⟨[], none⟩ := by decide +kernel
theorem ef_rm2 (m : MethodId) (x0 : Addr) (x1 : Int32) (x2 : Int32) (x3 : Addr) : entryFrame m #[(.ref x0), (.int x1), (.int x2), (.ref x3)] 4 = mkF m 0 #[.val (.ref x0), .val (.int x1), .val (.int x2), .val (.ref x3)] [] := by first | (simp [entryFrame, mkF, argsToLocals, Value.category]; done) | rfl
def Q_rm2 (Z : State) (a1 : Addr) (p1 : Int32) (p2 : Int32) (a3 : Addr) (u1 : Value) (u2 : Value) (u3 : Value) (h0 : Heap) (n0 : Nat) (v : Option Value) (h : Heap) (L : List Loc) : Prop := v = none ∧ Fr n0 L ∧ Keep h0 h [a1] ∧ Fld Z h a1 "com/example/rigorous_bytecode/rigorousbytecode/dex/ArrayDataPayload" "elementWidth" "I" (.int p2) ∧ Fld Z h a1 "com/example/rigorous_bytecode/rigorousbytecode/dex/ArrayDataPayload" "data" "[B" (.ref a3)
set_option maxRecDepth 65536 in
set_option maxHeartbeats 40000000 in
theorem rm2 (l : Launch) (Z : State) (a0 : Array Value) (hw : ∀ d ∈ tables_1, d.before a0 Z = true) (ws : List Jvm.Cond) (a1 : Addr) (p1 : Int32) (p2 : Int32) (a3 : Addr) (u1 : Value) (u2 : Value) (u3 : Value) (h0 : Heap) (n0 : Nat) (Z0 : n0 ≤ h0.size) (E_0 : Exa Z h0 a1 "com/example/rigorous_bytecode/rigorousbytecode/dex/ArrayDataPayload") (F_00 : Fld Z h0 a1 "com/example/rigorous_bytecode/rigorousbytecode/dex/ArrayDataPayload" "offset" "I" u1) (F_01 : Fld Z h0 a1 "com/example/rigorous_bytecode/rigorousbytecode/dex/ArrayDataPayload" "elementWidth" "I" u2) (F_02 : Fld Z h0 a1 "com/example/rigorous_bytecode/rigorousbytecode/dex/ArrayDataPayload" "data" "[B" u3) (n_a1 : n0 ≤ a1) :
    MetFree l (⟨"com/example/rigorous_bytecode/rigorousbytecode/dex/ArrayDataPayload", "<init>", "(II[B)V"⟩ : MethodName) (head1 (Jvm.Cond.code (⟨"com/example/rigorous_bytecode/rigorousbytecode/dex/ArrayDataPayload", "<init>", "(II[B)V"⟩ : MethodName) prog_44_method_1_code 4 none :: ws) ({ frames := 2, cells := 0, slots := 0, locals := 24 } : Room)) (fun a U => a = #[(.ref a1), (.int p1), (.int p2), (.ref a3)] ∧ Z.Warmed39 U.vm ∧ U.heap = h0) (fun _ _ _ _ _ => True) (fun _ U o U' => ∃ v L, o = .returned v ∧ Q_rm2 Z a1 p1 p2 a3 u1 u2 u3 h0 n0 v U'.heap L ∧ FrameEnd U o U' L ({ frames := 2, cells := 0, slots := 0, locals := 24 } : Room).cells ({ frames := 2, cells := 0, slots := 0, locals := 24 } : Room).slots) := by
  refine MetFree.of_bodySF (plainFor_of_name pn_2) hisR ?_
  intro p e s m args below meth c s₁ Bd hml0 hP hK
  obtain ⟨rfl, hZ, hh⟩ := hP
  have hx := Bd.exec
  have hby := Bd.bytes
  have hml : c.maxLocals = 4 := hml0
  have hown : s.vm.findClass "com/example/rigorous_bytecode/rigorousbytecode/dex/ArrayDataPayload" = some m.cls := findClass_of_methodNamed Bd.named
  have hnm := (name_of_methodNamed Bd.named Bd.method).1
  have X0 : Stand p l e ({ frames := 2, cells := 0, slots := 0, locals := 24 } : Room) s m #[(.ref a1), (.int p1), (.int p2), (.ref a3)] below meth c s₁ [] 0 0 := Stand.of_body Bd
  have e0 : s₁.heap = h0 := by rw [← hh, Bd.state]; rfl
  have N0 := Fr.nil n0
  have pre0 : ∀ t, Steps p.tables e below (s₁.setTop (mkF m 0 #[.val (.ref a1), .val (.int p1), .val (.int p2), .val (.ref a3)] [])) t → Steps p.tables e below (s₁.setTop (entryFrame m #[(.ref a1), (.int p1), (.int p2), (.ref a3)] 4)) t := fun t k => castTop (ef_rm2 m a1 p1 p2 a3) k
  have R0 : ∀ t, Steps p.tables e below (s₁.setTop (mkF m 0 #[.val (.ref a1), .val (.int p1), .val (.int p2), .val (.ref a3)] [])) t → Steps p.tables e below (s₁.setTop (mkF m 0 #[.val (.ref a1), .val (.int p1), .val (.int p2), .val (.ref a3)] [])) t := fun _ k => k
  have R52 : ∀ t, Steps p.tables e below (s₁.setTop (mkF m 1 #[.val (.ref a1), .val (.int p1), .val (.int p2), .val (.ref a3)] [(.ref a1)])) t → Steps p.tables e below (s₁.setTop (mkF m 0 #[.val (.ref a1), .val (.int p1), .val (.int p2), .val (.ref a3)] [])) t := by
    intro t k
    refine R0 t ?_
    refine XS.aloadN X0.here hx rfl (hb hby d2_0) rfl rfl ?_
    exact k
  obtain ⟨_, _, ⟨T53, L53, k53, n53⟩, -, X53, ⟨Lc53, hQ53, l53, y53, z53⟩, st53⟩ := X0.specialBack hx (y := (⟨"java/lang/Record", "<init>", "()V"⟩ : MethodName)) rfl hown (mvT hZ (hw _ (List.mem_of_getElem? (i := 12) rfl))) (mvT hZ (hw _ (List.mem_of_getElem? (i := 13) rfl))) (mvT hZ (hw _ (List.mem_of_getElem? (i := 16) rfl))) (by decide) (backOf (W := 0) (rm3 l Z a0 hw [] a1  h0 n0 Z0 ) hZ (hw _ (List.mem_of_getElem? (i := 16) rfl)) (hw _ (List.mem_of_getElem? (i := 15) rfl)) (by decide) (by decide)) (g := (mkF m 1 #[.val (.ref a1), .val (.int p1), .val (.int p2), .val (.ref a3)] [(.ref a1)])) rfl (by rw [hml]; rfl) (Steps.refl _) (a := a1) (argsL := []) (rest := []) (lenOf pd_0 rfl) rfl (by show 2 * 0 + _ ≤ _; exact Nat.le_of_eq rfl) (hb hby d2_1) (fun _ _ => ⟨rfl, e0, (by decide : 0 + 0 ≤ _), (by decide : 0 + 0 ≤ _)⟩)
  dsimp only [Pt.U, Pt.locs, Pt.cells, Pt.slots] at X53 l53 y53 z53 st53 hQ53
  subst l53 y53 z53
  obtain ⟨rfl, M53, e53⟩ := hQ53
  have N53 := Fr.app N0 M53
  have R54 : ∀ t, Steps p.tables e below (T53.setTop (mkF m 4 #[.val (.ref a1), .val (.int p1), .val (.int p2), .val (.ref a3)] [])) t → Steps p.tables e below (s₁.setTop (mkF m 0 #[.val (.ref a1), .val (.int p1), .val (.int p2), .val (.ref a3)] [])) t := fun t k => R52 t (st53.trans k)
  have R55 : ∀ t, Steps p.tables e below (T53.setTop (mkF m 6 #[.val (.ref a1), .val (.int p1), .val (.int p2), .val (.ref a3)] [(.int p1), (.ref a1)])) t → Steps p.tables e below (s₁.setTop (mkF m 0 #[.val (.ref a1), .val (.int p1), .val (.int p2), .val (.ref a3)] [])) t := by
    intro t k
    refine R54 t ?_
    refine XS.aloadN X53.here hx rfl (hb hby d2_4) rfl rfl ?_
    refine XS.iloadN X53.here hx rfl (hb hby d2_5) rfl ?_
    exact k
  obtain ⟨T56, h56, X56, e56, W56, st56⟩ := putF X53 hx hZ hown (host := "") (Or.inl (hw _ (List.mem_of_getElem? (i := 20) rfl))) Via.refl e53 F_00 E_0 (Or.inr ⟨(hw _ (List.mem_of_getElem? (i := 21) rfl)), rfl, hnm⟩) (hw _ (List.mem_of_getElem? (i := 7) rfl)) (ty := .int) (by decide) rfl rfl (g := (mkF m 6 #[.val (.ref a1), .val (.int p1), .val (.int p2), .val (.ref a3)] [(.int p1), (.ref a1)])) rfl rfl (hb hby d2_6)
  have N56 := Fr.snoc X56 N53 n_a1
  have Z56 : n0 ≤ h56.size := Nat.le_trans Z0 (Keep.of_wr W56).1
  have K56 : Keep h0 h56 [a1] := (Keep.refl h0 [a1]).wr W56 (Or.inl (List.mem_of_getElem? (i := 0) rfl))
  have E_57 : Exa Z h56 a1 "com/example/rigorous_bytecode/rigorousbytecode/dex/ArrayDataPayload" := E_0.wr W56
  have F_58 : Fld Z h56 a1 "com/example/rigorous_bytecode/rigorousbytecode/dex/ArrayDataPayload" "offset" "I" (.int p1) := F_00.same W56
  have F_59 : Fld Z h56 a1 "com/example/rigorous_bytecode/rigorousbytecode/dex/ArrayDataPayload" "elementWidth" "I" u2 := F_01.other W56 (Or.inr (slot_ne (Or.inr (hw _ (List.mem_of_getElem? (i := 23) rfl))) (Or.inr (hw _ (List.mem_of_getElem? (i := 21) rfl))) (by decide) (t := .int) (t' := .int) (by decide) (by decide)))
  have F_60 : Fld Z h56 a1 "com/example/rigorous_bytecode/rigorousbytecode/dex/ArrayDataPayload" "data" "[B" u3 := F_02.other W56 (Or.inr (slot_ne (Or.inr (hw _ (List.mem_of_getElem? (i := 25) rfl))) (Or.inr (hw _ (List.mem_of_getElem? (i := 21) rfl))) (by decide) (t := (.array .byte)) (t' := .int) (by decide) (by decide)))
  have R61 : ∀ t, Steps p.tables e below (T56.setTop (mkF m 9 #[.val (.ref a1), .val (.int p1), .val (.int p2), .val (.ref a3)] [])) t → Steps p.tables e below (s₁.setTop (mkF m 0 #[.val (.ref a1), .val (.int p1), .val (.int p2), .val (.ref a3)] [])) t := fun t k => R55 t (st56 _ k)
  have R62 : ∀ t, Steps p.tables e below (T56.setTop (mkF m 11 #[.val (.ref a1), .val (.int p1), .val (.int p2), .val (.ref a3)] [(.int p2), (.ref a1)])) t → Steps p.tables e below (s₁.setTop (mkF m 0 #[.val (.ref a1), .val (.int p1), .val (.int p2), .val (.ref a3)] [])) t := by
    intro t k
    refine R61 t ?_
    refine XS.aloadN X56.here hx rfl (hb hby d2_9) rfl rfl ?_
    refine XS.iloadN X56.here hx rfl (hb hby d2_10) rfl ?_
    exact k
  obtain ⟨T63, h63, X63, e63, W63, st63⟩ := putF X56 hx hZ hown (host := "") (Or.inl (hw _ (List.mem_of_getElem? (i := 22) rfl))) Via.refl e56 F_59 E_57 (Or.inr ⟨(hw _ (List.mem_of_getElem? (i := 23) rfl)), rfl, hnm⟩) (hw _ (List.mem_of_getElem? (i := 7) rfl)) (ty := .int) (by decide) rfl rfl (g := (mkF m 11 #[.val (.ref a1), .val (.int p1), .val (.int p2), .val (.ref a3)] [(.int p2), (.ref a1)])) rfl rfl (hb hby d2_11)
  have N63 := Fr.snoc X63 N56 n_a1
  have Z63 : n0 ≤ h63.size := Nat.le_trans Z56 (Keep.of_wr W63).1
  have K63 : Keep h0 h63 [a1] := K56.wr W63 (Or.inl (List.mem_of_getElem? (i := 0) rfl))
  have E_64 : Exa Z h63 a1 "com/example/rigorous_bytecode/rigorousbytecode/dex/ArrayDataPayload" := E_57.wr W63
  have F_65 : Fld Z h63 a1 "com/example/rigorous_bytecode/rigorousbytecode/dex/ArrayDataPayload" "offset" "I" (.int p1) := F_58.other W63 (Or.inr (slot_ne (Or.inr (hw _ (List.mem_of_getElem? (i := 21) rfl))) (Or.inr (hw _ (List.mem_of_getElem? (i := 23) rfl))) (by decide) (t := .int) (t' := .int) (by decide) (by decide)))
  have F_66 : Fld Z h63 a1 "com/example/rigorous_bytecode/rigorousbytecode/dex/ArrayDataPayload" "elementWidth" "I" (.int p2) := F_59.same W63
  have F_67 : Fld Z h63 a1 "com/example/rigorous_bytecode/rigorousbytecode/dex/ArrayDataPayload" "data" "[B" u3 := F_60.other W63 (Or.inr (slot_ne (Or.inr (hw _ (List.mem_of_getElem? (i := 25) rfl))) (Or.inr (hw _ (List.mem_of_getElem? (i := 23) rfl))) (by decide) (t := (.array .byte)) (t' := .int) (by decide) (by decide)))
  have R68 : ∀ t, Steps p.tables e below (T63.setTop (mkF m 14 #[.val (.ref a1), .val (.int p1), .val (.int p2), .val (.ref a3)] [])) t → Steps p.tables e below (s₁.setTop (mkF m 0 #[.val (.ref a1), .val (.int p1), .val (.int p2), .val (.ref a3)] [])) t := fun t k => R62 t (st63 _ k)
  have R69 : ∀ t, Steps p.tables e below (T63.setTop (mkF m 16 #[.val (.ref a1), .val (.int p1), .val (.int p2), .val (.ref a3)] [(.ref a3), (.ref a1)])) t → Steps p.tables e below (s₁.setTop (mkF m 0 #[.val (.ref a1), .val (.int p1), .val (.int p2), .val (.ref a3)] [])) t := by
    intro t k
    refine R68 t ?_
    refine XS.aloadN X63.here hx rfl (hb hby d2_14) rfl rfl ?_
    refine XS.aloadN X63.here hx rfl (hb hby d2_15) rfl rfl ?_
    exact k
  obtain ⟨T70, h70, X70, e70, W70, st70⟩ := putF X63 hx hZ hown (host := "") (Or.inl (hw _ (List.mem_of_getElem? (i := 24) rfl))) Via.refl e63 F_67 E_64 (Or.inr ⟨(hw _ (List.mem_of_getElem? (i := 25) rfl)), rfl, hnm⟩) (hw _ (List.mem_of_getElem? (i := 7) rfl)) (ty := (.array .byte)) (by decide) rfl rfl (g := (mkF m 16 #[.val (.ref a1), .val (.int p1), .val (.int p2), .val (.ref a3)] [(.ref a3), (.ref a1)])) rfl rfl (hb hby d2_16)
  have N70 := Fr.snoc X70 N63 n_a1
  have Z70 : n0 ≤ h70.size := Nat.le_trans Z63 (Keep.of_wr W70).1
  have K70 : Keep h0 h70 [a1] := K63.wr W70 (Or.inl (List.mem_of_getElem? (i := 0) rfl))
  have E_71 : Exa Z h70 a1 "com/example/rigorous_bytecode/rigorousbytecode/dex/ArrayDataPayload" := E_64.wr W70
  have F_72 : Fld Z h70 a1 "com/example/rigorous_bytecode/rigorousbytecode/dex/ArrayDataPayload" "offset" "I" (.int p1) := F_65.other W70 (Or.inr (slot_ne (Or.inr (hw _ (List.mem_of_getElem? (i := 21) rfl))) (Or.inr (hw _ (List.mem_of_getElem? (i := 25) rfl))) (by decide) (t := .int) (t' := (.array .byte)) (by decide) (by decide)))
  have F_73 : Fld Z h70 a1 "com/example/rigorous_bytecode/rigorousbytecode/dex/ArrayDataPayload" "elementWidth" "I" (.int p2) := F_66.other W70 (Or.inr (slot_ne (Or.inr (hw _ (List.mem_of_getElem? (i := 23) rfl))) (Or.inr (hw _ (List.mem_of_getElem? (i := 25) rfl))) (by decide) (t := .int) (t' := (.array .byte)) (by decide) (by decide)))
  have F_74 : Fld Z h70 a1 "com/example/rigorous_bytecode/rigorousbytecode/dex/ArrayDataPayload" "data" "[B" (.ref a3) := F_67.same W70
  have R75 : ∀ t, Steps p.tables e below (T70.setTop (mkF m 19 #[.val (.ref a1), .val (.int p1), .val (.int p2), .val (.ref a3)] [])) t → Steps p.tables e below (s₁.setTop (mkF m 0 #[.val (.ref a1), .val (.int p1), .val (.int p2), .val (.ref a3)] [])) t := fun t k => R69 t (st70 _ k)
  obtain ⟨fs, hr, hrun, hended, hW, hsame⟩ := X70.leave (v := none) (fun _ => rfl)
  refine ⟨_, _, pre0 _ (R75 _ (X70.returnOut hx Bd.returns (hb hby d2_19) hr)), hrun, hended, _, _, rfl, ?_, ⟨_, rfl⟩, hW, hsame.mono (by decide) (by decide)⟩
  show Q_rm2 Z a1 p1 p2 a3 u1 u2 u3 h0 n0 _ T70.heap _
  rw [e70]
  exact ⟨rfl, N70, K70, F_73, F_74⟩
theorem d5_0 : decode prog_44_method_5_code 0 = .ok (.iload_n 1, 1) := by decide +kernel
theorem d5_1 : decode prog_44_method_5_code 1 = .ok (.aload_n 0, 1) := by decide +kernel
theorem d5_2 : decode prog_44_method_5_code 2 = .ok (.getfield 13, 3) := by decide +kernel
theorem d5_5 : decode prog_44_method_5_code 5 = .ok (.imul, 1) := by decide +kernel
theorem d5_6 : decode prog_44_method_5_code 6 = .ok (.istore_n 2, 1) := by decide +kernel
theorem d5_7 : decode prog_44_method_5_code 7 = .ok (.lconst 0, 1) := by decide +kernel
theorem d5_8 : decode prog_44_method_5_code 8 = .ok (.lstore_n 3, 1) := by decide +kernel
theorem d5_9 : decode prog_44_method_5_code 9 = .ok (.aload_n 0, 1) := by decide +kernel
theorem d5_10 : decode prog_44_method_5_code 10 = .ok (.getfield 13, 3) := by decide +kernel
theorem d5_13 : decode prog_44_method_5_code 13 = .ok (.iconst 1, 1) := by decide +kernel
theorem d5_14 : decode prog_44_method_5_code 14 = .ok (.isub, 1) := by decide +kernel
theorem d5_15 : decode prog_44_method_5_code 15 = .ok (.istore 5, 2) := by decide +kernel
theorem d5_17 : decode prog_44_method_5_code 17 = .ok (.iload 5, 2) := by decide +kernel
theorem d5_19 : decode prog_44_method_5_code 19 = .ok (.ifCond .lt 29, 3) := by decide +kernel
theorem d5_22 : decode prog_44_method_5_code 22 = .ok (.lload_n 3, 1) := by decide +kernel
theorem d5_23 : decode prog_44_method_5_code 23 = .ok (.bipush 8, 2) := by decide +kernel
theorem d5_25 : decode prog_44_method_5_code 25 = .ok (.lshl, 1) := by decide +kernel
theorem d5_26 : decode prog_44_method_5_code 26 = .ok (.aload_n 0, 1) := by decide +kernel
theorem d5_27 : decode prog_44_method_5_code 27 = .ok (.getfield 16, 3) := by decide +kernel
theorem d5_30 : decode prog_44_method_5_code 30 = .ok (.iload_n 2, 1) := by decide +kernel
theorem d5_31 : decode prog_44_method_5_code 31 = .ok (.iload 5, 2) := by decide +kernel
theorem d5_33 : decode prog_44_method_5_code 33 = .ok (.iadd, 1) := by decide +kernel
theorem d5_34 : decode prog_44_method_5_code 34 = .ok (.baload, 1) := by decide +kernel
theorem d5_35 : decode prog_44_method_5_code 35 = .ok (.sipush 255, 3) := by decide +kernel
theorem d5_38 : decode prog_44_method_5_code 38 = .ok (.iand, 1) := by decide +kernel
theorem d5_39 : decode prog_44_method_5_code 39 = .ok (.i2l, 1) := by decide +kernel
theorem d5_40 : decode prog_44_method_5_code 40 = .ok (.lor, 1) := by decide +kernel
theorem d5_41 : decode prog_44_method_5_code 41 = .ok (.lstore_n 3, 1) := by decide +kernel
theorem d5_42 : decode prog_44_method_5_code 42 = .ok (.iinc 5 (-1), 3) := by decide +kernel
theorem d5_45 : decode prog_44_method_5_code 45 = .ok (.goto (-28), 3) := by decide +kernel
theorem d5_48 : decode prog_44_method_5_code 48 = .ok (.bipush 64, 2) := by decide +kernel
theorem d5_50 : decode prog_44_method_5_code 50 = .ok (.bipush 8, 2) := by decide +kernel
theorem d5_52 : decode prog_44_method_5_code 52 = .ok (.aload_n 0, 1) := by decide +kernel
theorem d5_53 : decode prog_44_method_5_code 53 = .ok (.getfield 13, 3) := by decide +kernel
theorem d5_56 : decode prog_44_method_5_code 56 = .ok (.imul, 1) := by decide +kernel
theorem d5_57 : decode prog_44_method_5_code 57 = .ok (.isub, 1) := by decide +kernel
theorem d5_58 : decode prog_44_method_5_code 58 = .ok (.istore 5, 2) := by decide +kernel
theorem d5_60 : decode prog_44_method_5_code 60 = .ok (.lload_n 3, 1) := by decide +kernel
theorem d5_61 : decode prog_44_method_5_code 61 = .ok (.iload 5, 2) := by decide +kernel
theorem d5_63 : decode prog_44_method_5_code 63 = .ok (.lshl, 1) := by decide +kernel
theorem d5_64 : decode prog_44_method_5_code 64 = .ok (.iload 5, 2) := by decide +kernel
theorem d5_66 : decode prog_44_method_5_code 66 = .ok (.lshr, 1) := by decide +kernel
theorem d5_67 : decode prog_44_method_5_code 67 = .ok (.lreturn, 1) := by decide +kernel
theorem ef_rme1 (m : MethodId) (x0 : Addr) (x1 : Int32) : entryFrame m #[(.ref x0), (.int x1)] 6 = mkF m 0 #[.val (.ref x0), .val (.int x1), .unset, .unset, .unset, .unset] [] := by first | (simp [entryFrame, mkF, argsToLocals, Value.category]; done) | rfl
def Q_rme1 (Z : State) (a1 : Addr) (p1 : Int32) (ta : Addr) (k : ClassId) (vs : List Value) (g : Nat → Int32) (h0 : Heap) (n0 : Nat) (v : Option Value) (h : Heap) (L : List Loc) : Prop := v = some (.long (own_sx (own_acc g 1 1) (56 : Int32))) ∧ Fr n0 L ∧ h = h0
set_option maxRecDepth 65536 in
set_option maxHeartbeats 40000000 in
theorem rme1 (l : Launch) (Z : State) (a0 : Array Value) (hw : ∀ d ∈ tables_1, d.before a0 Z = true) (ws : List Jvm.Cond) (a1 : Addr) (p1 : Int32) (ta : Addr) (k : ClassId) (vs : List Value) (g : Nat → Int32) (h0 : Heap) (n0 : Nat) (Z0 : n0 ≤ h0.size) (F_01 : Fld Z h0 a1 "com/example/rigorous_bytecode/rigorousbytecode/dex/ArrayDataPayload" "elementWidth" "I" (.int (1 : Int32))) (F_02 : Fld Z h0 a1 "com/example/rigorous_bytecode/rigorousbytecode/dex/ArrayDataPayload" "data" "[B" (.ref ta)) (V_0 : Arv Z h0 ta k .byte (16 : Int32) vs (.int (0 : Int32))) (hg : ∀ j : Nat, j < 1 → (¬ ((p1 * (1 : Int32)) + Int32.ofNat j) < 0 ∧ ((p1 * (1 : Int32)) + Int32.ofNat j) < (16 : Int32)) ∧ vs.getD ((p1 * (1 : Int32)) + Int32.ofNat j).toNatClampNeg (.int (0 : Int32)) = .int (g j)) :
    MetFree l (⟨"com/example/rigorous_bytecode/rigorousbytecode/dex/ArrayDataPayload", "element", "(I)J"⟩ : MethodName) (head1 (Jvm.Cond.code (⟨"com/example/rigorous_bytecode/rigorousbytecode/dex/ArrayDataPayload", "element", "(I)J"⟩ : MethodName) prog_44_method_5_code 6 (some .long) :: ws) ({ frames := 0, cells := 0, slots := 0, locals := 0 } : Room)) (fun a U => a = #[(.ref a1), (.int p1)] ∧ Z.Warmed39 U.vm ∧ U.heap = h0) (fun _ _ _ _ _ => True) (fun _ U o U' => ∃ v L, o = .returned v ∧ Q_rme1 Z a1 p1 ta k vs g h0 n0 v U'.heap L ∧ FrameEnd U o U' L ({ frames := 0, cells := 0, slots := 0, locals := 0 } : Room).cells ({ frames := 0, cells := 0, slots := 0, locals := 0 } : Room).slots) := by
  refine MetFree.of_bodySF (plainFor_of_name pn_2) hisR ?_
  intro p e s m args below meth c s₁ Bd hml0 hP hK
  obtain ⟨rfl, hZ, hh⟩ := hP
  have hx := Bd.exec
  have hby := Bd.bytes
  have hml : c.maxLocals = 6 := hml0
  have hown : s.vm.findClass "com/example/rigorous_bytecode/rigorousbytecode/dex/ArrayDataPayload" = some m.cls := findClass_of_methodNamed Bd.named
  have hnm := (name_of_methodNamed Bd.named Bd.method).1
  have X0 : Stand p l e ({ frames := 0, cells := 0, slots := 0, locals := 0 } : Room) s m #[(.ref a1), (.int p1)] below meth c s₁ [] 0 0 := Stand.of_body Bd
  have e0 : s₁.heap = h0 := by rw [← hh, Bd.state]; rfl
  have N0 := Fr.nil n0
  have pre0 : ∀ t, Steps p.tables e below (s₁.setTop (mkF m 0 #[.val (.ref a1), .val (.int p1), .unset, .unset, .unset, .unset] [])) t → Steps p.tables e below (s₁.setTop (entryFrame m #[(.ref a1), (.int p1)] 6)) t := fun t k => castTop (ef_rme1 m a1 p1) k
  have R0 : ∀ t, Steps p.tables e below (s₁.setTop (mkF m 0 #[.val (.ref a1), .val (.int p1), .unset, .unset, .unset, .unset] [])) t → Steps p.tables e below (s₁.setTop (mkF m 0 #[.val (.ref a1), .val (.int p1), .unset, .unset, .unset, .unset] [])) t := fun _ k => k
  have R76 : ∀ t, Steps p.tables e below (s₁.setTop (mkF m 2 #[.val (.ref a1), .val (.int p1), .unset, .unset, .unset, .unset] [(.ref a1), (.int p1)])) t → Steps p.tables e below (s₁.setTop (mkF m 0 #[.val (.ref a1), .val (.int p1), .unset, .unset, .unset, .unset] [])) t := by
    intro t k
    refine R0 t ?_
    refine XS.iloadN X0.here hx rfl (hb hby d5_0) rfl ?_
    refine XS.aloadN X0.here hx rfl (hb hby d5_1) rfl rfl ?_
    exact k
  obtain ⟨T77, X77, e77, st77⟩ := getF X0 hx hZ hown (host := "") (Or.inl (hw _ (List.mem_of_getElem? (i := 22) rfl))) Via.refl e0 F_01 (g := (mkF m 2 #[.val (.ref a1), .val (.int p1), .unset, .unset, .unset, .unset] [(.ref a1), (.int p1)])) rfl rfl (hb hby d5_2)
  have R78 : ∀ t, Steps p.tables e below (T77.setTop (mkF m 5 #[.val (.ref a1), .val (.int p1), .unset, .unset, .unset, .unset] [(.int (1 : Int32)), (.int p1)])) t → Steps p.tables e below (s₁.setTop (mkF m 0 #[.val (.ref a1), .val (.int p1), .unset, .unset, .unset, .unset] [])) t := fun t k => R76 t (st77 _ k)
  have R79 : ∀ t, Steps p.tables e below (T77.setTop (mkF m 10 #[.val (.ref a1), .val (.int p1), .val (.int (p1 * (1 : Int32))), .val (.long (0 : Int64)), .second, .unset] [(.ref a1)])) t → Steps p.tables e below (s₁.setTop (mkF m 0 #[.val (.ref a1), .val (.int p1), .unset, .unset, .unset, .unset] [])) t := by
    intro t k
    refine R78 t ?_
    refine XS.imul X77.here hx rfl (hb hby d5_5) rfl ?_
    refine XS.istoreN X77.here hx rfl (hb hby d5_6) rfl (l' := #[.val (.ref a1), .val (.int p1), .val (.int (p1 * (1 : Int32))), .unset, .unset, .unset]) rfl ?_
    refine XS.lconst X77.here hx rfl (hb hby d5_7) ?_
    refine XS.lstoreN X77.here hx rfl (hb hby d5_8) rfl (l' := #[.val (.ref a1), .val (.int p1), .val (.int (p1 * (1 : Int32))), .val (.long (0 : Int64)), .second, .unset]) rfl ?_
    refine XS.aloadN X77.here hx rfl (hb hby d5_9) rfl rfl ?_
    exact k
  obtain ⟨T80, X80, e80, st80⟩ := getF X77 hx hZ hown (host := "") (Or.inl (hw _ (List.mem_of_getElem? (i := 22) rfl))) Via.refl e77 F_01 (g := (mkF m 10 #[.val (.ref a1), .val (.int p1), .val (.int (p1 * (1 : Int32))), .val (.long (0 : Int64)), .second, .unset] [(.ref a1)])) rfl rfl (hb hby d5_10)
  have R81 : ∀ t, Steps p.tables e below (T80.setTop (mkF m 13 #[.val (.ref a1), .val (.int p1), .val (.int (p1 * (1 : Int32))), .val (.long (0 : Int64)), .second, .unset] [(.int (1 : Int32))])) t → Steps p.tables e below (s₁.setTop (mkF m 0 #[.val (.ref a1), .val (.int p1), .unset, .unset, .unset, .unset] [])) t := fun t k => R79 t (st80 _ k)
  have R82 : ∀ t, Steps p.tables e below (T80.setTop (mkF m 15 #[.val (.ref a1), .val (.int p1), .val (.int (p1 * (1 : Int32))), .val (.long (0 : Int64)), .second, .unset] [(.int ((1 : Int32) - (1 : Int32)))])) t → Steps p.tables e below (s₁.setTop (mkF m 0 #[.val (.ref a1), .val (.int p1), .unset, .unset, .unset, .unset] [])) t := by
    intro t k
    refine R81 t ?_
    refine XS.iconst X80.here hx rfl (hb hby d5_13) ?_
    refine XS.isub X80.here hx rfl (hb hby d5_14) rfl ?_
    exact k
  have R83 : ∀ t, Steps p.tables e below (T80.setTop (mkF m 17 #[.val (.ref a1), .val (.int p1), .val (.int (p1 * (1 : Int32))), .val (.long (0 : Int64)), .second, .val (.int (0 : Int32))] [])) t → Steps p.tables e below (s₁.setTop (mkF m 0 #[.val (.ref a1), .val (.int p1), .unset, .unset, .unset, .unset] [])) t := by
    intro t k
    refine R82 t ?_
    refine XS.istore X80.here hx rfl (hb hby d5_15) rfl (l' := #[.val (.ref a1), .val (.int p1), .val (.int (p1 * (1 : Int32))), .val (.long (0 : Int64)), .second, .val (.int (0 : Int32))]) rfl ?_
    exact k
  have R84 : ∀ t, Steps p.tables e below (T80.setTop (mkF m 19 #[.val (.ref a1), .val (.int p1), .val (.int (p1 * (1 : Int32))), .val (.long (0 : Int64)), .second, .val (.int (0 : Int32))] [(.int (0 : Int32))])) t → Steps p.tables e below (s₁.setTop (mkF m 0 #[.val (.ref a1), .val (.int p1), .unset, .unset, .unset, .unset] [])) t := by
    intro t k
    refine R83 t ?_
    refine XS.iload X80.here hx rfl (hb hby d5_17) rfl ?_
    exact k
  have R85 : ∀ t, Steps p.tables e below (T80.setTop (mkF m 22 #[.val (.ref a1), .val (.int p1), .val (.int (p1 * (1 : Int32))), .val (.long (0 : Int64)), .second, .val (.int (0 : Int32))] [])) t → Steps p.tables e below (s₁.setTop (mkF m 0 #[.val (.ref a1), .val (.int p1), .unset, .unset, .unset, .unset] [])) t := by
    intro t k
    refine R84 t ?_
    refine XS.ifNo X80.here hx rfl (hb hby d5_19) rfl ((if0 _ _).trans (flt (by decide)).1) ?_
    exact k
  have R86 : ∀ t, Steps p.tables e below (T80.setTop (mkF m 27 #[.val (.ref a1), .val (.int p1), .val (.int (p1 * (1 : Int32))), .val (.long (0 : Int64)), .second, .val (.int (0 : Int32))] [(.ref a1), (.long (((0 : Int64) <<< ((8 : Int32) &&& 0x3f).toInt64)))])) t → Steps p.tables e below (s₁.setTop (mkF m 0 #[.val (.ref a1), .val (.int p1), .unset, .unset, .unset, .unset] [])) t := by
    intro t k
    refine R85 t ?_
    refine XS.lloadN X80.here hx rfl (hb hby d5_22) rfl ?_
    refine XS.bipush X80.here hx rfl (hb hby d5_23) ?_
    refine XS.lshl X80.here hx rfl (hb hby d5_25) rfl ?_
    refine XS.aloadN X80.here hx rfl (hb hby d5_26) rfl rfl ?_
    exact k
  obtain ⟨T87, X87, e87, st87⟩ := getF X80 hx hZ hown (host := "") (Or.inl (hw _ (List.mem_of_getElem? (i := 24) rfl))) Via.refl e80 F_02 (g := (mkF m 27 #[.val (.ref a1), .val (.int p1), .val (.int (p1 * (1 : Int32))), .val (.long (0 : Int64)), .second, .val (.int (0 : Int32))] [(.ref a1), (.long (((0 : Int64) <<< ((8 : Int32) &&& 0x3f).toInt64)))])) rfl rfl (hb hby d5_27)
  have R88 : ∀ t, Steps p.tables e below (T87.setTop (mkF m 30 #[.val (.ref a1), .val (.int p1), .val (.int (p1 * (1 : Int32))), .val (.long (0 : Int64)), .second, .val (.int (0 : Int32))] [(.ref ta), (.long (((0 : Int64) <<< ((8 : Int32) &&& 0x3f).toInt64)))])) t → Steps p.tables e below (s₁.setTop (mkF m 0 #[.val (.ref a1), .val (.int p1), .unset, .unset, .unset, .unset] [])) t := fun t k => R86 t (st87 _ k)
  have R89 : ∀ t, Steps p.tables e below (T87.setTop (mkF m 34 #[.val (.ref a1), .val (.int p1), .val (.int (p1 * (1 : Int32))), .val (.long (0 : Int64)), .second, .val (.int (0 : Int32))] [(.int ((p1 * (1 : Int32)) + (0 : Int32))), (.ref ta), (.long (((0 : Int64) <<< ((8 : Int32) &&& 0x3f).toInt64)))])) t → Steps p.tables e below (s₁.setTop (mkF m 0 #[.val (.ref a1), .val (.int p1), .unset, .unset, .unset, .unset] [])) t := by
    intro t k
    refine R88 t ?_
    refine XS.iloadN X87.here hx rfl (hb hby d5_30) rfl ?_
    refine XS.iload X87.here hx rfl (hb hby d5_31) rfl ?_
    refine XS.iadd X87.here hx rfl (hb hby d5_33) rfl ?_
    exact k
  obtain ⟨cl90, Ar90, q90, Sz90, Nn90, Hh90, G90⟩ := id V_0
  have hin90 : ¬ (((p1 * (1 : Int32)) + (0 : Int32)) < 0 ∨ cl90.slots.size ≤ (((p1 * (1 : Int32)) + (0 : Int32))).toNatClampNeg) := inb_of Sz90 (hg 0 (by decide)).1
  have R91 : ∀ t, Steps p.tables e below (T87.setTop (mkF m 35 #[.val (.ref a1), .val (.int p1), .val (.int (p1 * (1 : Int32))), .val (.long (0 : Int64)), .second, .val (.int (0 : Int32))] [(.int (g 0)), (.long (((0 : Int64) <<< ((8 : Int32) &&& 0x3f).toInt64)))])) t → Steps p.tables e below (s₁.setTop (mkF m 0 #[.val (.ref a1), .val (.int p1), .unset, .unset, .unset, .unset] [])) t := by
    intro t k
    refine R89 t ?_
    refine X87.baloadBytes hx (j := ((p1 * (1 : Int32)) + (0 : Int32))) (v := (.int (g 0))) (by rw [e87]; exact Ar90.1) (State.isArrayOf_alike hZ.alike Ar90.2.1) Ar90.2.2 hin90 (Hh90.at hin90 (hg 0 (by decide)).2) (g := (mkF m 34 #[.val (.ref a1), .val (.int p1), .val (.int (p1 * (1 : Int32))), .val (.long (0 : Int64)), .second, .val (.int (0 : Int32))] [(.int ((p1 * (1 : Int32)) + (0 : Int32))), (.ref ta), (.long (((0 : Int64) <<< ((8 : Int32) &&& 0x3f).toInt64)))])) rfl rfl (hb hby d5_34) _ ?_
    exact k
  have R92 : ∀ t, Steps p.tables e below (T87.setTop (mkF m 41 #[.val (.ref a1), .val (.int p1), .val (.int (p1 * (1 : Int32))), .val (.long (0 : Int64)), .second, .val (.int (0 : Int32))] [(.long ((((0 : Int64) <<< ((8 : Int32) &&& 0x3f).toInt64)) ||| ((((g 0) &&& (255 : Int32))).toInt64)))])) t → Steps p.tables e below (s₁.setTop (mkF m 0 #[.val (.ref a1), .val (.int p1), .unset, .unset, .unset, .unset] [])) t := by
    intro t k
    refine R91 t ?_
    refine XS.sipush X87.here hx rfl (hb hby d5_35) ?_
    refine XS.iand X87.here hx rfl (hb hby d5_38) rfl ?_
    refine XS.i2l X87.here hx rfl (hb hby d5_39) rfl ?_
    refine XS.lor X87.here hx rfl (hb hby d5_40) rfl ?_
    exact k
  have R93 : ∀ t, Steps p.tables e below (T87.setTop (mkF m 42 #[.val (.ref a1), .val (.int p1), .val (.int (p1 * (1 : Int32))), .val (.long (own_acc g 1 1)), .second, .val (.int (0 : Int32))] [])) t → Steps p.tables e below (s₁.setTop (mkF m 0 #[.val (.ref a1), .val (.int p1), .unset, .unset, .unset, .unset] [])) t := by
    intro t k
    refine R92 t ?_
    refine XS.lstoreN X87.here hx rfl (hb hby d5_41) rfl (l' := #[.val (.ref a1), .val (.int p1), .val (.int (p1 * (1 : Int32))), .val (.long (own_acc g 1 1)), .second, .val (.int (0 : Int32))]) rfl ?_
    exact k
  have R94 : ∀ t, Steps p.tables e below (T87.setTop (mkF m 45 #[.val (.ref a1), .val (.int p1), .val (.int (p1 * (1 : Int32))), .val (.long (own_acc g 1 1)), .second, .val (.int ((0 : Int32) + (-1 : Int32)))] [])) t → Steps p.tables e below (s₁.setTop (mkF m 0 #[.val (.ref a1), .val (.int p1), .unset, .unset, .unset, .unset] [])) t := by
    intro t k
    refine R93 t ?_
    refine XS.iinc X87.here hx rfl (hb hby d5_42) rfl (l' := #[.val (.ref a1), .val (.int p1), .val (.int (p1 * (1 : Int32))), .val (.long (own_acc g 1 1)), .second, .val (.int ((0 : Int32) + (-1 : Int32)))]) rfl ?_
    exact k
  have R95 : ∀ t, Steps p.tables e below (T87.setTop (mkF m 17 #[.val (.ref a1), .val (.int p1), .val (.int (p1 * (1 : Int32))), .val (.long (own_acc g 1 1)), .second, .val (.int (-1 : Int32))] [])) t → Steps p.tables e below (s₁.setTop (mkF m 0 #[.val (.ref a1), .val (.int p1), .unset, .unset, .unset, .unset] [])) t := by
    intro t k
    refine R94 t ?_
    refine XS.goto X87.here hx rfl (pc0 := 45) (pc' := 17) rfl (hb hby d5_45) (by decide) (by decide) ?_
    exact k
  have R96 : ∀ t, Steps p.tables e below (T87.setTop (mkF m 19 #[.val (.ref a1), .val (.int p1), .val (.int (p1 * (1 : Int32))), .val (.long (own_acc g 1 1)), .second, .val (.int (-1 : Int32))] [(.int (-1 : Int32))])) t → Steps p.tables e below (s₁.setTop (mkF m 0 #[.val (.ref a1), .val (.int p1), .unset, .unset, .unset, .unset] [])) t := by
    intro t k
    refine R95 t ?_
    refine XS.iload X87.here hx rfl (hb hby d5_17) rfl ?_
    exact k
  have R97 : ∀ t, Steps p.tables e below (T87.setTop (mkF m 48 #[.val (.ref a1), .val (.int p1), .val (.int (p1 * (1 : Int32))), .val (.long (own_acc g 1 1)), .second, .val (.int (-1 : Int32))] [])) t → Steps p.tables e below (s₁.setTop (mkF m 0 #[.val (.ref a1), .val (.int p1), .unset, .unset, .unset, .unset] [])) t := by
    intro t k
    refine R96 t ?_
    refine XS.ifYes X87.here hx rfl (pc0 := 19) (pc' := 48) rfl (hb hby d5_19) rfl ((if0 _ _).trans (tlt (by decide)).1) (by decide) (by decide) ?_
    exact k
  have R98 : ∀ t, Steps p.tables e below (T87.setTop (mkF m 53 #[.val (.ref a1), .val (.int p1), .val (.int (p1 * (1 : Int32))), .val (.long (own_acc g 1 1)), .second, .val (.int (-1 : Int32))] [(.ref a1), (.int (8 : Int32)), (.int (64 : Int32))])) t → Steps p.tables e below (s₁.setTop (mkF m 0 #[.val (.ref a1), .val (.int p1), .unset, .unset, .unset, .unset] [])) t := by
    intro t k
    refine R97 t ?_
    refine XS.bipush X87.here hx rfl (hb hby d5_48) ?_
    refine XS.bipush X87.here hx rfl (hb hby d5_50) ?_
    refine XS.aloadN X87.here hx rfl (hb hby d5_52) rfl rfl ?_
    exact k
  obtain ⟨T99, X99, e99, st99⟩ := getF X87 hx hZ hown (host := "") (Or.inl (hw _ (List.mem_of_getElem? (i := 22) rfl))) Via.refl e87 F_01 (g := (mkF m 53 #[.val (.ref a1), .val (.int p1), .val (.int (p1 * (1 : Int32))), .val (.long (own_acc g 1 1)), .second, .val (.int (-1 : Int32))] [(.ref a1), (.int (8 : Int32)), (.int (64 : Int32))])) rfl rfl (hb hby d5_53)
  have R100 : ∀ t, Steps p.tables e below (T99.setTop (mkF m 56 #[.val (.ref a1), .val (.int p1), .val (.int (p1 * (1 : Int32))), .val (.long (own_acc g 1 1)), .second, .val (.int (-1 : Int32))] [(.int (1 : Int32)), (.int (8 : Int32)), (.int (64 : Int32))])) t → Steps p.tables e below (s₁.setTop (mkF m 0 #[.val (.ref a1), .val (.int p1), .unset, .unset, .unset, .unset] [])) t := fun t k => R98 t (st99 _ k)
  have R101 : ∀ t, Steps p.tables e below (T99.setTop (mkF m 58 #[.val (.ref a1), .val (.int p1), .val (.int (p1 * (1 : Int32))), .val (.long (own_acc g 1 1)), .second, .val (.int (-1 : Int32))] [(.int ((64 : Int32) - ((8 : Int32) * (1 : Int32))))])) t → Steps p.tables e below (s₁.setTop (mkF m 0 #[.val (.ref a1), .val (.int p1), .unset, .unset, .unset, .unset] [])) t := by
    intro t k
    refine R100 t ?_
    refine XS.imul X99.here hx rfl (hb hby d5_56) rfl ?_
    refine XS.isub X99.here hx rfl (hb hby d5_57) rfl ?_
    exact k
  have R102 : ∀ t, Steps p.tables e below (T99.setTop (mkF m 67 #[.val (.ref a1), .val (.int p1), .val (.int (p1 * (1 : Int32))), .val (.long (own_acc g 1 1)), .second, .val (.int (56 : Int32))] [(.long (own_sx (own_acc g 1 1) (56 : Int32)))])) t → Steps p.tables e below (s₁.setTop (mkF m 0 #[.val (.ref a1), .val (.int p1), .unset, .unset, .unset, .unset] [])) t := by
    intro t k
    refine R101 t ?_
    refine XS.istore X99.here hx rfl (hb hby d5_58) rfl (l' := #[.val (.ref a1), .val (.int p1), .val (.int (p1 * (1 : Int32))), .val (.long (own_acc g 1 1)), .second, .val (.int (56 : Int32))]) rfl ?_
    refine XS.lloadN X99.here hx rfl (hb hby d5_60) rfl ?_
    refine XS.iload X99.here hx rfl (hb hby d5_61) rfl ?_
    refine XS.lshl X99.here hx rfl (hb hby d5_63) rfl ?_
    refine XS.iload X99.here hx rfl (hb hby d5_64) rfl ?_
    refine XS.lshr X99.here hx rfl (hb hby d5_66) rfl ?_
    exact k
  obtain ⟨fs, hr, hrun, hended, hW, hsame⟩ := X99.leave (v := some (.long (own_sx (own_acc g 1 1) (56 : Int32)))) (fun h => by rw [Bd.returns] at h; cases h)
  refine ⟨_, _, pre0 _ (R102 _ (retOut X99 hx (t := .long) Bd.returns rfl (Or.inr (Or.inl ⟨rfl, rfl, _, rfl⟩)) (hb hby d5_67) hr)), hrun, hended, _, _, rfl, ?_, ⟨_, rfl⟩, hW, hsame.mono (by decide) (by decide)⟩
  show Q_rme1 Z a1 p1 ta k vs g h0 n0 _ T99.heap _
  rw [e99]
  exact ⟨rfl, N0, rfl⟩
theorem ef_rme2 (m : MethodId) (x0 : Addr) (x1 : Int32) : entryFrame m #[(.ref x0), (.int x1)] 6 = mkF m 0 #[.val (.ref x0), .val (.int x1), .unset, .unset, .unset, .unset] [] := by first | (simp [entryFrame, mkF, argsToLocals, Value.category]; done) | rfl
def Q_rme2 (Z : State) (a1 : Addr) (p1 : Int32) (ta : Addr) (k : ClassId) (vs : List Value) (g : Nat → Int32) (h0 : Heap) (n0 : Nat) (v : Option Value) (h : Heap) (L : List Loc) : Prop := v = some (.long (own_sx (own_acc g 2 2) (48 : Int32))) ∧ Fr n0 L ∧ h = h0
set_option maxRecDepth 65536 in
set_option maxHeartbeats 40000000 in
theorem rme2 (l : Launch) (Z : State) (a0 : Array Value) (hw : ∀ d ∈ tables_1, d.before a0 Z = true) (ws : List Jvm.Cond) (a1 : Addr) (p1 : Int32) (ta : Addr) (k : ClassId) (vs : List Value) (g : Nat → Int32) (h0 : Heap) (n0 : Nat) (Z0 : n0 ≤ h0.size) (F_01 : Fld Z h0 a1 "com/example/rigorous_bytecode/rigorousbytecode/dex/ArrayDataPayload" "elementWidth" "I" (.int (2 : Int32))) (F_02 : Fld Z h0 a1 "com/example/rigorous_bytecode/rigorousbytecode/dex/ArrayDataPayload" "data" "[B" (.ref ta)) (V_0 : Arv Z h0 ta k .byte (16 : Int32) vs (.int (0 : Int32))) (hg : ∀ j : Nat, j < 2 → (¬ ((p1 * (2 : Int32)) + Int32.ofNat j) < 0 ∧ ((p1 * (2 : Int32)) + Int32.ofNat j) < (16 : Int32)) ∧ vs.getD ((p1 * (2 : Int32)) + Int32.ofNat j).toNatClampNeg (.int (0 : Int32)) = .int (g j)) :
    MetFree l (⟨"com/example/rigorous_bytecode/rigorousbytecode/dex/ArrayDataPayload", "element", "(I)J"⟩ : MethodName) (head1 (Jvm.Cond.code (⟨"com/example/rigorous_bytecode/rigorousbytecode/dex/ArrayDataPayload", "element", "(I)J"⟩ : MethodName) prog_44_method_5_code 6 (some .long) :: ws) ({ frames := 0, cells := 0, slots := 0, locals := 0 } : Room)) (fun a U => a = #[(.ref a1), (.int p1)] ∧ Z.Warmed39 U.vm ∧ U.heap = h0) (fun _ _ _ _ _ => True) (fun _ U o U' => ∃ v L, o = .returned v ∧ Q_rme2 Z a1 p1 ta k vs g h0 n0 v U'.heap L ∧ FrameEnd U o U' L ({ frames := 0, cells := 0, slots := 0, locals := 0 } : Room).cells ({ frames := 0, cells := 0, slots := 0, locals := 0 } : Room).slots) := by
  refine MetFree.of_bodySF (plainFor_of_name pn_2) hisR ?_
  intro p e s m args below meth c s₁ Bd hml0 hP hK
  obtain ⟨rfl, hZ, hh⟩ := hP
  have hx := Bd.exec
  have hby := Bd.bytes
  have hml : c.maxLocals = 6 := hml0
  have hown : s.vm.findClass "com/example/rigorous_bytecode/rigorousbytecode/dex/ArrayDataPayload" = some m.cls := findClass_of_methodNamed Bd.named
  have hnm := (name_of_methodNamed Bd.named Bd.method).1
  have X0 : Stand p l e ({ frames := 0, cells := 0, slots := 0, locals := 0 } : Room) s m #[(.ref a1), (.int p1)] below meth c s₁ [] 0 0 := Stand.of_body Bd
  have e0 : s₁.heap = h0 := by rw [← hh, Bd.state]; rfl
  have N0 := Fr.nil n0
  have pre0 : ∀ t, Steps p.tables e below (s₁.setTop (mkF m 0 #[.val (.ref a1), .val (.int p1), .unset, .unset, .unset, .unset] [])) t → Steps p.tables e below (s₁.setTop (entryFrame m #[(.ref a1), (.int p1)] 6)) t := fun t k => castTop (ef_rme2 m a1 p1) k
  have R0 : ∀ t, Steps p.tables e below (s₁.setTop (mkF m 0 #[.val (.ref a1), .val (.int p1), .unset, .unset, .unset, .unset] [])) t → Steps p.tables e below (s₁.setTop (mkF m 0 #[.val (.ref a1), .val (.int p1), .unset, .unset, .unset, .unset] [])) t := fun _ k => k
  have R103 : ∀ t, Steps p.tables e below (s₁.setTop (mkF m 2 #[.val (.ref a1), .val (.int p1), .unset, .unset, .unset, .unset] [(.ref a1), (.int p1)])) t → Steps p.tables e below (s₁.setTop (mkF m 0 #[.val (.ref a1), .val (.int p1), .unset, .unset, .unset, .unset] [])) t := by
    intro t k
    refine R0 t ?_
    refine XS.iloadN X0.here hx rfl (hb hby d5_0) rfl ?_
    refine XS.aloadN X0.here hx rfl (hb hby d5_1) rfl rfl ?_
    exact k
  obtain ⟨T104, X104, e104, st104⟩ := getF X0 hx hZ hown (host := "") (Or.inl (hw _ (List.mem_of_getElem? (i := 22) rfl))) Via.refl e0 F_01 (g := (mkF m 2 #[.val (.ref a1), .val (.int p1), .unset, .unset, .unset, .unset] [(.ref a1), (.int p1)])) rfl rfl (hb hby d5_2)
  have R105 : ∀ t, Steps p.tables e below (T104.setTop (mkF m 5 #[.val (.ref a1), .val (.int p1), .unset, .unset, .unset, .unset] [(.int (2 : Int32)), (.int p1)])) t → Steps p.tables e below (s₁.setTop (mkF m 0 #[.val (.ref a1), .val (.int p1), .unset, .unset, .unset, .unset] [])) t := fun t k => R103 t (st104 _ k)
  have R106 : ∀ t, Steps p.tables e below (T104.setTop (mkF m 10 #[.val (.ref a1), .val (.int p1), .val (.int (p1 * (2 : Int32))), .val (.long (0 : Int64)), .second, .unset] [(.ref a1)])) t → Steps p.tables e below (s₁.setTop (mkF m 0 #[.val (.ref a1), .val (.int p1), .unset, .unset, .unset, .unset] [])) t := by
    intro t k
    refine R105 t ?_
    refine XS.imul X104.here hx rfl (hb hby d5_5) rfl ?_
    refine XS.istoreN X104.here hx rfl (hb hby d5_6) rfl (l' := #[.val (.ref a1), .val (.int p1), .val (.int (p1 * (2 : Int32))), .unset, .unset, .unset]) rfl ?_
    refine XS.lconst X104.here hx rfl (hb hby d5_7) ?_
    refine XS.lstoreN X104.here hx rfl (hb hby d5_8) rfl (l' := #[.val (.ref a1), .val (.int p1), .val (.int (p1 * (2 : Int32))), .val (.long (0 : Int64)), .second, .unset]) rfl ?_
    refine XS.aloadN X104.here hx rfl (hb hby d5_9) rfl rfl ?_
    exact k
  obtain ⟨T107, X107, e107, st107⟩ := getF X104 hx hZ hown (host := "") (Or.inl (hw _ (List.mem_of_getElem? (i := 22) rfl))) Via.refl e104 F_01 (g := (mkF m 10 #[.val (.ref a1), .val (.int p1), .val (.int (p1 * (2 : Int32))), .val (.long (0 : Int64)), .second, .unset] [(.ref a1)])) rfl rfl (hb hby d5_10)
  have R108 : ∀ t, Steps p.tables e below (T107.setTop (mkF m 13 #[.val (.ref a1), .val (.int p1), .val (.int (p1 * (2 : Int32))), .val (.long (0 : Int64)), .second, .unset] [(.int (2 : Int32))])) t → Steps p.tables e below (s₁.setTop (mkF m 0 #[.val (.ref a1), .val (.int p1), .unset, .unset, .unset, .unset] [])) t := fun t k => R106 t (st107 _ k)
  have R109 : ∀ t, Steps p.tables e below (T107.setTop (mkF m 15 #[.val (.ref a1), .val (.int p1), .val (.int (p1 * (2 : Int32))), .val (.long (0 : Int64)), .second, .unset] [(.int ((2 : Int32) - (1 : Int32)))])) t → Steps p.tables e below (s₁.setTop (mkF m 0 #[.val (.ref a1), .val (.int p1), .unset, .unset, .unset, .unset] [])) t := by
    intro t k
    refine R108 t ?_
    refine XS.iconst X107.here hx rfl (hb hby d5_13) ?_
    refine XS.isub X107.here hx rfl (hb hby d5_14) rfl ?_
    exact k
  have R110 : ∀ t, Steps p.tables e below (T107.setTop (mkF m 17 #[.val (.ref a1), .val (.int p1), .val (.int (p1 * (2 : Int32))), .val (.long (0 : Int64)), .second, .val (.int (1 : Int32))] [])) t → Steps p.tables e below (s₁.setTop (mkF m 0 #[.val (.ref a1), .val (.int p1), .unset, .unset, .unset, .unset] [])) t := by
    intro t k
    refine R109 t ?_
    refine XS.istore X107.here hx rfl (hb hby d5_15) rfl (l' := #[.val (.ref a1), .val (.int p1), .val (.int (p1 * (2 : Int32))), .val (.long (0 : Int64)), .second, .val (.int (1 : Int32))]) rfl ?_
    exact k
  have R111 : ∀ t, Steps p.tables e below (T107.setTop (mkF m 19 #[.val (.ref a1), .val (.int p1), .val (.int (p1 * (2 : Int32))), .val (.long (0 : Int64)), .second, .val (.int (1 : Int32))] [(.int (1 : Int32))])) t → Steps p.tables e below (s₁.setTop (mkF m 0 #[.val (.ref a1), .val (.int p1), .unset, .unset, .unset, .unset] [])) t := by
    intro t k
    refine R110 t ?_
    refine XS.iload X107.here hx rfl (hb hby d5_17) rfl ?_
    exact k
  have R112 : ∀ t, Steps p.tables e below (T107.setTop (mkF m 22 #[.val (.ref a1), .val (.int p1), .val (.int (p1 * (2 : Int32))), .val (.long (0 : Int64)), .second, .val (.int (1 : Int32))] [])) t → Steps p.tables e below (s₁.setTop (mkF m 0 #[.val (.ref a1), .val (.int p1), .unset, .unset, .unset, .unset] [])) t := by
    intro t k
    refine R111 t ?_
    refine XS.ifNo X107.here hx rfl (hb hby d5_19) rfl ((if0 _ _).trans (flt (by decide)).1) ?_
    exact k
  have R113 : ∀ t, Steps p.tables e below (T107.setTop (mkF m 27 #[.val (.ref a1), .val (.int p1), .val (.int (p1 * (2 : Int32))), .val (.long (0 : Int64)), .second, .val (.int (1 : Int32))] [(.ref a1), (.long (((0 : Int64) <<< ((8 : Int32) &&& 0x3f).toInt64)))])) t → Steps p.tables e below (s₁.setTop (mkF m 0 #[.val (.ref a1), .val (.int p1), .unset, .unset, .unset, .unset] [])) t := by
    intro t k
    refine R112 t ?_
    refine XS.lloadN X107.here hx rfl (hb hby d5_22) rfl ?_
    refine XS.bipush X107.here hx rfl (hb hby d5_23) ?_
    refine XS.lshl X107.here hx rfl (hb hby d5_25) rfl ?_
    refine XS.aloadN X107.here hx rfl (hb hby d5_26) rfl rfl ?_
    exact k
  obtain ⟨T114, X114, e114, st114⟩ := getF X107 hx hZ hown (host := "") (Or.inl (hw _ (List.mem_of_getElem? (i := 24) rfl))) Via.refl e107 F_02 (g := (mkF m 27 #[.val (.ref a1), .val (.int p1), .val (.int (p1 * (2 : Int32))), .val (.long (0 : Int64)), .second, .val (.int (1 : Int32))] [(.ref a1), (.long (((0 : Int64) <<< ((8 : Int32) &&& 0x3f).toInt64)))])) rfl rfl (hb hby d5_27)
  have R115 : ∀ t, Steps p.tables e below (T114.setTop (mkF m 30 #[.val (.ref a1), .val (.int p1), .val (.int (p1 * (2 : Int32))), .val (.long (0 : Int64)), .second, .val (.int (1 : Int32))] [(.ref ta), (.long (((0 : Int64) <<< ((8 : Int32) &&& 0x3f).toInt64)))])) t → Steps p.tables e below (s₁.setTop (mkF m 0 #[.val (.ref a1), .val (.int p1), .unset, .unset, .unset, .unset] [])) t := fun t k => R113 t (st114 _ k)
  have R116 : ∀ t, Steps p.tables e below (T114.setTop (mkF m 34 #[.val (.ref a1), .val (.int p1), .val (.int (p1 * (2 : Int32))), .val (.long (0 : Int64)), .second, .val (.int (1 : Int32))] [(.int ((p1 * (2 : Int32)) + (1 : Int32))), (.ref ta), (.long (((0 : Int64) <<< ((8 : Int32) &&& 0x3f).toInt64)))])) t → Steps p.tables e below (s₁.setTop (mkF m 0 #[.val (.ref a1), .val (.int p1), .unset, .unset, .unset, .unset] [])) t := by
    intro t k
    refine R115 t ?_
    refine XS.iloadN X114.here hx rfl (hb hby d5_30) rfl ?_
    refine XS.iload X114.here hx rfl (hb hby d5_31) rfl ?_
    refine XS.iadd X114.here hx rfl (hb hby d5_33) rfl ?_
    exact k
  obtain ⟨cl117, Ar117, q117, Sz117, Nn117, Hh117, G117⟩ := id V_0
  have hin117 : ¬ (((p1 * (2 : Int32)) + (1 : Int32)) < 0 ∨ cl117.slots.size ≤ (((p1 * (2 : Int32)) + (1 : Int32))).toNatClampNeg) := inb_of Sz117 (hg 1 (by decide)).1
  have R118 : ∀ t, Steps p.tables e below (T114.setTop (mkF m 35 #[.val (.ref a1), .val (.int p1), .val (.int (p1 * (2 : Int32))), .val (.long (0 : Int64)), .second, .val (.int (1 : Int32))] [(.int (g 1)), (.long (((0 : Int64) <<< ((8 : Int32) &&& 0x3f).toInt64)))])) t → Steps p.tables e below (s₁.setTop (mkF m 0 #[.val (.ref a1), .val (.int p1), .unset, .unset, .unset, .unset] [])) t := by
    intro t k
    refine R116 t ?_
    refine X114.baloadBytes hx (j := ((p1 * (2 : Int32)) + (1 : Int32))) (v := (.int (g 1))) (by rw [e114]; exact Ar117.1) (State.isArrayOf_alike hZ.alike Ar117.2.1) Ar117.2.2 hin117 (Hh117.at hin117 (hg 1 (by decide)).2) (g := (mkF m 34 #[.val (.ref a1), .val (.int p1), .val (.int (p1 * (2 : Int32))), .val (.long (0 : Int64)), .second, .val (.int (1 : Int32))] [(.int ((p1 * (2 : Int32)) + (1 : Int32))), (.ref ta), (.long (((0 : Int64) <<< ((8 : Int32) &&& 0x3f).toInt64)))])) rfl rfl (hb hby d5_34) _ ?_
    exact k
  have R119 : ∀ t, Steps p.tables e below (T114.setTop (mkF m 41 #[.val (.ref a1), .val (.int p1), .val (.int (p1 * (2 : Int32))), .val (.long (0 : Int64)), .second, .val (.int (1 : Int32))] [(.long ((((0 : Int64) <<< ((8 : Int32) &&& 0x3f).toInt64)) ||| ((((g 1) &&& (255 : Int32))).toInt64)))])) t → Steps p.tables e below (s₁.setTop (mkF m 0 #[.val (.ref a1), .val (.int p1), .unset, .unset, .unset, .unset] [])) t := by
    intro t k
    refine R118 t ?_
    refine XS.sipush X114.here hx rfl (hb hby d5_35) ?_
    refine XS.iand X114.here hx rfl (hb hby d5_38) rfl ?_
    refine XS.i2l X114.here hx rfl (hb hby d5_39) rfl ?_
    refine XS.lor X114.here hx rfl (hb hby d5_40) rfl ?_
    exact k
  have R120 : ∀ t, Steps p.tables e below (T114.setTop (mkF m 42 #[.val (.ref a1), .val (.int p1), .val (.int (p1 * (2 : Int32))), .val (.long (own_acc g 2 1)), .second, .val (.int (1 : Int32))] [])) t → Steps p.tables e below (s₁.setTop (mkF m 0 #[.val (.ref a1), .val (.int p1), .unset, .unset, .unset, .unset] [])) t := by
    intro t k
    refine R119 t ?_
    refine XS.lstoreN X114.here hx rfl (hb hby d5_41) rfl (l' := #[.val (.ref a1), .val (.int p1), .val (.int (p1 * (2 : Int32))), .val (.long (own_acc g 2 1)), .second, .val (.int (1 : Int32))]) rfl ?_
    exact k
  have R121 : ∀ t, Steps p.tables e below (T114.setTop (mkF m 45 #[.val (.ref a1), .val (.int p1), .val (.int (p1 * (2 : Int32))), .val (.long (own_acc g 2 1)), .second, .val (.int ((1 : Int32) + (-1 : Int32)))] [])) t → Steps p.tables e below (s₁.setTop (mkF m 0 #[.val (.ref a1), .val (.int p1), .unset, .unset, .unset, .unset] [])) t := by
    intro t k
    refine R120 t ?_
    refine XS.iinc X114.here hx rfl (hb hby d5_42) rfl (l' := #[.val (.ref a1), .val (.int p1), .val (.int (p1 * (2 : Int32))), .val (.long (own_acc g 2 1)), .second, .val (.int ((1 : Int32) + (-1 : Int32)))]) rfl ?_
    exact k
  have R122 : ∀ t, Steps p.tables e below (T114.setTop (mkF m 17 #[.val (.ref a1), .val (.int p1), .val (.int (p1 * (2 : Int32))), .val (.long (own_acc g 2 1)), .second, .val (.int (0 : Int32))] [])) t → Steps p.tables e below (s₁.setTop (mkF m 0 #[.val (.ref a1), .val (.int p1), .unset, .unset, .unset, .unset] [])) t := by
    intro t k
    refine R121 t ?_
    refine XS.goto X114.here hx rfl (pc0 := 45) (pc' := 17) rfl (hb hby d5_45) (by decide) (by decide) ?_
    exact k
  have R123 : ∀ t, Steps p.tables e below (T114.setTop (mkF m 19 #[.val (.ref a1), .val (.int p1), .val (.int (p1 * (2 : Int32))), .val (.long (own_acc g 2 1)), .second, .val (.int (0 : Int32))] [(.int (0 : Int32))])) t → Steps p.tables e below (s₁.setTop (mkF m 0 #[.val (.ref a1), .val (.int p1), .unset, .unset, .unset, .unset] [])) t := by
    intro t k
    refine R122 t ?_
    refine XS.iload X114.here hx rfl (hb hby d5_17) rfl ?_
    exact k
  have R124 : ∀ t, Steps p.tables e below (T114.setTop (mkF m 22 #[.val (.ref a1), .val (.int p1), .val (.int (p1 * (2 : Int32))), .val (.long (own_acc g 2 1)), .second, .val (.int (0 : Int32))] [])) t → Steps p.tables e below (s₁.setTop (mkF m 0 #[.val (.ref a1), .val (.int p1), .unset, .unset, .unset, .unset] [])) t := by
    intro t k
    refine R123 t ?_
    refine XS.ifNo X114.here hx rfl (hb hby d5_19) rfl ((if0 _ _).trans (flt (by decide)).1) ?_
    exact k
  have R125 : ∀ t, Steps p.tables e below (T114.setTop (mkF m 27 #[.val (.ref a1), .val (.int p1), .val (.int (p1 * (2 : Int32))), .val (.long (own_acc g 2 1)), .second, .val (.int (0 : Int32))] [(.ref a1), (.long (((own_acc g 2 1) <<< ((8 : Int32) &&& 0x3f).toInt64)))])) t → Steps p.tables e below (s₁.setTop (mkF m 0 #[.val (.ref a1), .val (.int p1), .unset, .unset, .unset, .unset] [])) t := by
    intro t k
    refine R124 t ?_
    refine XS.lloadN X114.here hx rfl (hb hby d5_22) rfl ?_
    refine XS.bipush X114.here hx rfl (hb hby d5_23) ?_
    refine XS.lshl X114.here hx rfl (hb hby d5_25) rfl ?_
    refine XS.aloadN X114.here hx rfl (hb hby d5_26) rfl rfl ?_
    exact k
  obtain ⟨T126, X126, e126, st126⟩ := getF X114 hx hZ hown (host := "") (Or.inl (hw _ (List.mem_of_getElem? (i := 24) rfl))) Via.refl e114 F_02 (g := (mkF m 27 #[.val (.ref a1), .val (.int p1), .val (.int (p1 * (2 : Int32))), .val (.long (own_acc g 2 1)), .second, .val (.int (0 : Int32))] [(.ref a1), (.long (((own_acc g 2 1) <<< ((8 : Int32) &&& 0x3f).toInt64)))])) rfl rfl (hb hby d5_27)
  have R127 : ∀ t, Steps p.tables e below (T126.setTop (mkF m 30 #[.val (.ref a1), .val (.int p1), .val (.int (p1 * (2 : Int32))), .val (.long (own_acc g 2 1)), .second, .val (.int (0 : Int32))] [(.ref ta), (.long (((own_acc g 2 1) <<< ((8 : Int32) &&& 0x3f).toInt64)))])) t → Steps p.tables e below (s₁.setTop (mkF m 0 #[.val (.ref a1), .val (.int p1), .unset, .unset, .unset, .unset] [])) t := fun t k => R125 t (st126 _ k)
  have R128 : ∀ t, Steps p.tables e below (T126.setTop (mkF m 34 #[.val (.ref a1), .val (.int p1), .val (.int (p1 * (2 : Int32))), .val (.long (own_acc g 2 1)), .second, .val (.int (0 : Int32))] [(.int ((p1 * (2 : Int32)) + (0 : Int32))), (.ref ta), (.long (((own_acc g 2 1) <<< ((8 : Int32) &&& 0x3f).toInt64)))])) t → Steps p.tables e below (s₁.setTop (mkF m 0 #[.val (.ref a1), .val (.int p1), .unset, .unset, .unset, .unset] [])) t := by
    intro t k
    refine R127 t ?_
    refine XS.iloadN X126.here hx rfl (hb hby d5_30) rfl ?_
    refine XS.iload X126.here hx rfl (hb hby d5_31) rfl ?_
    refine XS.iadd X126.here hx rfl (hb hby d5_33) rfl ?_
    exact k
  obtain ⟨cl129, Ar129, q129, Sz129, Nn129, Hh129, G129⟩ := id V_0
  have hin129 : ¬ (((p1 * (2 : Int32)) + (0 : Int32)) < 0 ∨ cl129.slots.size ≤ (((p1 * (2 : Int32)) + (0 : Int32))).toNatClampNeg) := inb_of Sz129 (hg 0 (by decide)).1
  have R130 : ∀ t, Steps p.tables e below (T126.setTop (mkF m 35 #[.val (.ref a1), .val (.int p1), .val (.int (p1 * (2 : Int32))), .val (.long (own_acc g 2 1)), .second, .val (.int (0 : Int32))] [(.int (g 0)), (.long (((own_acc g 2 1) <<< ((8 : Int32) &&& 0x3f).toInt64)))])) t → Steps p.tables e below (s₁.setTop (mkF m 0 #[.val (.ref a1), .val (.int p1), .unset, .unset, .unset, .unset] [])) t := by
    intro t k
    refine R128 t ?_
    refine X126.baloadBytes hx (j := ((p1 * (2 : Int32)) + (0 : Int32))) (v := (.int (g 0))) (by rw [e126]; exact Ar129.1) (State.isArrayOf_alike hZ.alike Ar129.2.1) Ar129.2.2 hin129 (Hh129.at hin129 (hg 0 (by decide)).2) (g := (mkF m 34 #[.val (.ref a1), .val (.int p1), .val (.int (p1 * (2 : Int32))), .val (.long (own_acc g 2 1)), .second, .val (.int (0 : Int32))] [(.int ((p1 * (2 : Int32)) + (0 : Int32))), (.ref ta), (.long (((own_acc g 2 1) <<< ((8 : Int32) &&& 0x3f).toInt64)))])) rfl rfl (hb hby d5_34) _ ?_
    exact k
  have R131 : ∀ t, Steps p.tables e below (T126.setTop (mkF m 41 #[.val (.ref a1), .val (.int p1), .val (.int (p1 * (2 : Int32))), .val (.long (own_acc g 2 1)), .second, .val (.int (0 : Int32))] [(.long ((((own_acc g 2 1) <<< ((8 : Int32) &&& 0x3f).toInt64)) ||| ((((g 0) &&& (255 : Int32))).toInt64)))])) t → Steps p.tables e below (s₁.setTop (mkF m 0 #[.val (.ref a1), .val (.int p1), .unset, .unset, .unset, .unset] [])) t := by
    intro t k
    refine R130 t ?_
    refine XS.sipush X126.here hx rfl (hb hby d5_35) ?_
    refine XS.iand X126.here hx rfl (hb hby d5_38) rfl ?_
    refine XS.i2l X126.here hx rfl (hb hby d5_39) rfl ?_
    refine XS.lor X126.here hx rfl (hb hby d5_40) rfl ?_
    exact k
  have R132 : ∀ t, Steps p.tables e below (T126.setTop (mkF m 42 #[.val (.ref a1), .val (.int p1), .val (.int (p1 * (2 : Int32))), .val (.long (own_acc g 2 2)), .second, .val (.int (0 : Int32))] [])) t → Steps p.tables e below (s₁.setTop (mkF m 0 #[.val (.ref a1), .val (.int p1), .unset, .unset, .unset, .unset] [])) t := by
    intro t k
    refine R131 t ?_
    refine XS.lstoreN X126.here hx rfl (hb hby d5_41) rfl (l' := #[.val (.ref a1), .val (.int p1), .val (.int (p1 * (2 : Int32))), .val (.long (own_acc g 2 2)), .second, .val (.int (0 : Int32))]) rfl ?_
    exact k
  have R133 : ∀ t, Steps p.tables e below (T126.setTop (mkF m 45 #[.val (.ref a1), .val (.int p1), .val (.int (p1 * (2 : Int32))), .val (.long (own_acc g 2 2)), .second, .val (.int ((0 : Int32) + (-1 : Int32)))] [])) t → Steps p.tables e below (s₁.setTop (mkF m 0 #[.val (.ref a1), .val (.int p1), .unset, .unset, .unset, .unset] [])) t := by
    intro t k
    refine R132 t ?_
    refine XS.iinc X126.here hx rfl (hb hby d5_42) rfl (l' := #[.val (.ref a1), .val (.int p1), .val (.int (p1 * (2 : Int32))), .val (.long (own_acc g 2 2)), .second, .val (.int ((0 : Int32) + (-1 : Int32)))]) rfl ?_
    exact k
  have R134 : ∀ t, Steps p.tables e below (T126.setTop (mkF m 17 #[.val (.ref a1), .val (.int p1), .val (.int (p1 * (2 : Int32))), .val (.long (own_acc g 2 2)), .second, .val (.int (-1 : Int32))] [])) t → Steps p.tables e below (s₁.setTop (mkF m 0 #[.val (.ref a1), .val (.int p1), .unset, .unset, .unset, .unset] [])) t := by
    intro t k
    refine R133 t ?_
    refine XS.goto X126.here hx rfl (pc0 := 45) (pc' := 17) rfl (hb hby d5_45) (by decide) (by decide) ?_
    exact k
  have R135 : ∀ t, Steps p.tables e below (T126.setTop (mkF m 19 #[.val (.ref a1), .val (.int p1), .val (.int (p1 * (2 : Int32))), .val (.long (own_acc g 2 2)), .second, .val (.int (-1 : Int32))] [(.int (-1 : Int32))])) t → Steps p.tables e below (s₁.setTop (mkF m 0 #[.val (.ref a1), .val (.int p1), .unset, .unset, .unset, .unset] [])) t := by
    intro t k
    refine R134 t ?_
    refine XS.iload X126.here hx rfl (hb hby d5_17) rfl ?_
    exact k
  have R136 : ∀ t, Steps p.tables e below (T126.setTop (mkF m 48 #[.val (.ref a1), .val (.int p1), .val (.int (p1 * (2 : Int32))), .val (.long (own_acc g 2 2)), .second, .val (.int (-1 : Int32))] [])) t → Steps p.tables e below (s₁.setTop (mkF m 0 #[.val (.ref a1), .val (.int p1), .unset, .unset, .unset, .unset] [])) t := by
    intro t k
    refine R135 t ?_
    refine XS.ifYes X126.here hx rfl (pc0 := 19) (pc' := 48) rfl (hb hby d5_19) rfl ((if0 _ _).trans (tlt (by decide)).1) (by decide) (by decide) ?_
    exact k
  have R137 : ∀ t, Steps p.tables e below (T126.setTop (mkF m 53 #[.val (.ref a1), .val (.int p1), .val (.int (p1 * (2 : Int32))), .val (.long (own_acc g 2 2)), .second, .val (.int (-1 : Int32))] [(.ref a1), (.int (8 : Int32)), (.int (64 : Int32))])) t → Steps p.tables e below (s₁.setTop (mkF m 0 #[.val (.ref a1), .val (.int p1), .unset, .unset, .unset, .unset] [])) t := by
    intro t k
    refine R136 t ?_
    refine XS.bipush X126.here hx rfl (hb hby d5_48) ?_
    refine XS.bipush X126.here hx rfl (hb hby d5_50) ?_
    refine XS.aloadN X126.here hx rfl (hb hby d5_52) rfl rfl ?_
    exact k
  obtain ⟨T138, X138, e138, st138⟩ := getF X126 hx hZ hown (host := "") (Or.inl (hw _ (List.mem_of_getElem? (i := 22) rfl))) Via.refl e126 F_01 (g := (mkF m 53 #[.val (.ref a1), .val (.int p1), .val (.int (p1 * (2 : Int32))), .val (.long (own_acc g 2 2)), .second, .val (.int (-1 : Int32))] [(.ref a1), (.int (8 : Int32)), (.int (64 : Int32))])) rfl rfl (hb hby d5_53)
  have R139 : ∀ t, Steps p.tables e below (T138.setTop (mkF m 56 #[.val (.ref a1), .val (.int p1), .val (.int (p1 * (2 : Int32))), .val (.long (own_acc g 2 2)), .second, .val (.int (-1 : Int32))] [(.int (2 : Int32)), (.int (8 : Int32)), (.int (64 : Int32))])) t → Steps p.tables e below (s₁.setTop (mkF m 0 #[.val (.ref a1), .val (.int p1), .unset, .unset, .unset, .unset] [])) t := fun t k => R137 t (st138 _ k)
  have R140 : ∀ t, Steps p.tables e below (T138.setTop (mkF m 58 #[.val (.ref a1), .val (.int p1), .val (.int (p1 * (2 : Int32))), .val (.long (own_acc g 2 2)), .second, .val (.int (-1 : Int32))] [(.int ((64 : Int32) - ((8 : Int32) * (2 : Int32))))])) t → Steps p.tables e below (s₁.setTop (mkF m 0 #[.val (.ref a1), .val (.int p1), .unset, .unset, .unset, .unset] [])) t := by
    intro t k
    refine R139 t ?_
    refine XS.imul X138.here hx rfl (hb hby d5_56) rfl ?_
    refine XS.isub X138.here hx rfl (hb hby d5_57) rfl ?_
    exact k
  have R141 : ∀ t, Steps p.tables e below (T138.setTop (mkF m 67 #[.val (.ref a1), .val (.int p1), .val (.int (p1 * (2 : Int32))), .val (.long (own_acc g 2 2)), .second, .val (.int (48 : Int32))] [(.long (own_sx (own_acc g 2 2) (48 : Int32)))])) t → Steps p.tables e below (s₁.setTop (mkF m 0 #[.val (.ref a1), .val (.int p1), .unset, .unset, .unset, .unset] [])) t := by
    intro t k
    refine R140 t ?_
    refine XS.istore X138.here hx rfl (hb hby d5_58) rfl (l' := #[.val (.ref a1), .val (.int p1), .val (.int (p1 * (2 : Int32))), .val (.long (own_acc g 2 2)), .second, .val (.int (48 : Int32))]) rfl ?_
    refine XS.lloadN X138.here hx rfl (hb hby d5_60) rfl ?_
    refine XS.iload X138.here hx rfl (hb hby d5_61) rfl ?_
    refine XS.lshl X138.here hx rfl (hb hby d5_63) rfl ?_
    refine XS.iload X138.here hx rfl (hb hby d5_64) rfl ?_
    refine XS.lshr X138.here hx rfl (hb hby d5_66) rfl ?_
    exact k
  obtain ⟨fs, hr, hrun, hended, hW, hsame⟩ := X138.leave (v := some (.long (own_sx (own_acc g 2 2) (48 : Int32)))) (fun h => by rw [Bd.returns] at h; cases h)
  refine ⟨_, _, pre0 _ (R141 _ (retOut X138 hx (t := .long) Bd.returns rfl (Or.inr (Or.inl ⟨rfl, rfl, _, rfl⟩)) (hb hby d5_67) hr)), hrun, hended, _, _, rfl, ?_, ⟨_, rfl⟩, hW, hsame.mono (by decide) (by decide)⟩
  show Q_rme2 Z a1 p1 ta k vs g h0 n0 _ T138.heap _
  rw [e138]
  exact ⟨rfl, N0, rfl⟩
theorem ef_rme4 (m : MethodId) (x0 : Addr) (x1 : Int32) : entryFrame m #[(.ref x0), (.int x1)] 6 = mkF m 0 #[.val (.ref x0), .val (.int x1), .unset, .unset, .unset, .unset] [] := by first | (simp [entryFrame, mkF, argsToLocals, Value.category]; done) | rfl
def Q_rme4 (Z : State) (a1 : Addr) (p1 : Int32) (ta : Addr) (k : ClassId) (vs : List Value) (g : Nat → Int32) (h0 : Heap) (n0 : Nat) (v : Option Value) (h : Heap) (L : List Loc) : Prop := v = some (.long (own_sx (own_acc g 4 4) (32 : Int32))) ∧ Fr n0 L ∧ h = h0
set_option maxRecDepth 65536 in
set_option maxHeartbeats 40000000 in
theorem rme4 (l : Launch) (Z : State) (a0 : Array Value) (hw : ∀ d ∈ tables_1, d.before a0 Z = true) (ws : List Jvm.Cond) (a1 : Addr) (p1 : Int32) (ta : Addr) (k : ClassId) (vs : List Value) (g : Nat → Int32) (h0 : Heap) (n0 : Nat) (Z0 : n0 ≤ h0.size) (F_01 : Fld Z h0 a1 "com/example/rigorous_bytecode/rigorousbytecode/dex/ArrayDataPayload" "elementWidth" "I" (.int (4 : Int32))) (F_02 : Fld Z h0 a1 "com/example/rigorous_bytecode/rigorousbytecode/dex/ArrayDataPayload" "data" "[B" (.ref ta)) (V_0 : Arv Z h0 ta k .byte (16 : Int32) vs (.int (0 : Int32))) (hg : ∀ j : Nat, j < 4 → (¬ ((p1 * (4 : Int32)) + Int32.ofNat j) < 0 ∧ ((p1 * (4 : Int32)) + Int32.ofNat j) < (16 : Int32)) ∧ vs.getD ((p1 * (4 : Int32)) + Int32.ofNat j).toNatClampNeg (.int (0 : Int32)) = .int (g j)) :
    MetFree l (⟨"com/example/rigorous_bytecode/rigorousbytecode/dex/ArrayDataPayload", "element", "(I)J"⟩ : MethodName) (head1 (Jvm.Cond.code (⟨"com/example/rigorous_bytecode/rigorousbytecode/dex/ArrayDataPayload", "element", "(I)J"⟩ : MethodName) prog_44_method_5_code 6 (some .long) :: ws) ({ frames := 0, cells := 0, slots := 0, locals := 0 } : Room)) (fun a U => a = #[(.ref a1), (.int p1)] ∧ Z.Warmed39 U.vm ∧ U.heap = h0) (fun _ _ _ _ _ => True) (fun _ U o U' => ∃ v L, o = .returned v ∧ Q_rme4 Z a1 p1 ta k vs g h0 n0 v U'.heap L ∧ FrameEnd U o U' L ({ frames := 0, cells := 0, slots := 0, locals := 0 } : Room).cells ({ frames := 0, cells := 0, slots := 0, locals := 0 } : Room).slots) := by
  refine MetFree.of_bodySF (plainFor_of_name pn_2) hisR ?_
  intro p e s m args below meth c s₁ Bd hml0 hP hK
  obtain ⟨rfl, hZ, hh⟩ := hP
  have hx := Bd.exec
  have hby := Bd.bytes
  have hml : c.maxLocals = 6 := hml0
  have hown : s.vm.findClass "com/example/rigorous_bytecode/rigorousbytecode/dex/ArrayDataPayload" = some m.cls := findClass_of_methodNamed Bd.named
  have hnm := (name_of_methodNamed Bd.named Bd.method).1
  have X0 : Stand p l e ({ frames := 0, cells := 0, slots := 0, locals := 0 } : Room) s m #[(.ref a1), (.int p1)] below meth c s₁ [] 0 0 := Stand.of_body Bd
  have e0 : s₁.heap = h0 := by rw [← hh, Bd.state]; rfl
  have N0 := Fr.nil n0
  have pre0 : ∀ t, Steps p.tables e below (s₁.setTop (mkF m 0 #[.val (.ref a1), .val (.int p1), .unset, .unset, .unset, .unset] [])) t → Steps p.tables e below (s₁.setTop (entryFrame m #[(.ref a1), (.int p1)] 6)) t := fun t k => castTop (ef_rme4 m a1 p1) k
  have R0 : ∀ t, Steps p.tables e below (s₁.setTop (mkF m 0 #[.val (.ref a1), .val (.int p1), .unset, .unset, .unset, .unset] [])) t → Steps p.tables e below (s₁.setTop (mkF m 0 #[.val (.ref a1), .val (.int p1), .unset, .unset, .unset, .unset] [])) t := fun _ k => k
  have R142 : ∀ t, Steps p.tables e below (s₁.setTop (mkF m 2 #[.val (.ref a1), .val (.int p1), .unset, .unset, .unset, .unset] [(.ref a1), (.int p1)])) t → Steps p.tables e below (s₁.setTop (mkF m 0 #[.val (.ref a1), .val (.int p1), .unset, .unset, .unset, .unset] [])) t := by
    intro t k
    refine R0 t ?_
    refine XS.iloadN X0.here hx rfl (hb hby d5_0) rfl ?_
    refine XS.aloadN X0.here hx rfl (hb hby d5_1) rfl rfl ?_
    exact k
  obtain ⟨T143, X143, e143, st143⟩ := getF X0 hx hZ hown (host := "") (Or.inl (hw _ (List.mem_of_getElem? (i := 22) rfl))) Via.refl e0 F_01 (g := (mkF m 2 #[.val (.ref a1), .val (.int p1), .unset, .unset, .unset, .unset] [(.ref a1), (.int p1)])) rfl rfl (hb hby d5_2)
  have R144 : ∀ t, Steps p.tables e below (T143.setTop (mkF m 5 #[.val (.ref a1), .val (.int p1), .unset, .unset, .unset, .unset] [(.int (4 : Int32)), (.int p1)])) t → Steps p.tables e below (s₁.setTop (mkF m 0 #[.val (.ref a1), .val (.int p1), .unset, .unset, .unset, .unset] [])) t := fun t k => R142 t (st143 _ k)
  have R145 : ∀ t, Steps p.tables e below (T143.setTop (mkF m 10 #[.val (.ref a1), .val (.int p1), .val (.int (p1 * (4 : Int32))), .val (.long (0 : Int64)), .second, .unset] [(.ref a1)])) t → Steps p.tables e below (s₁.setTop (mkF m 0 #[.val (.ref a1), .val (.int p1), .unset, .unset, .unset, .unset] [])) t := by
    intro t k
    refine R144 t ?_
    refine XS.imul X143.here hx rfl (hb hby d5_5) rfl ?_
    refine XS.istoreN X143.here hx rfl (hb hby d5_6) rfl (l' := #[.val (.ref a1), .val (.int p1), .val (.int (p1 * (4 : Int32))), .unset, .unset, .unset]) rfl ?_
    refine XS.lconst X143.here hx rfl (hb hby d5_7) ?_
    refine XS.lstoreN X143.here hx rfl (hb hby d5_8) rfl (l' := #[.val (.ref a1), .val (.int p1), .val (.int (p1 * (4 : Int32))), .val (.long (0 : Int64)), .second, .unset]) rfl ?_
    refine XS.aloadN X143.here hx rfl (hb hby d5_9) rfl rfl ?_
    exact k
  obtain ⟨T146, X146, e146, st146⟩ := getF X143 hx hZ hown (host := "") (Or.inl (hw _ (List.mem_of_getElem? (i := 22) rfl))) Via.refl e143 F_01 (g := (mkF m 10 #[.val (.ref a1), .val (.int p1), .val (.int (p1 * (4 : Int32))), .val (.long (0 : Int64)), .second, .unset] [(.ref a1)])) rfl rfl (hb hby d5_10)
  have R147 : ∀ t, Steps p.tables e below (T146.setTop (mkF m 13 #[.val (.ref a1), .val (.int p1), .val (.int (p1 * (4 : Int32))), .val (.long (0 : Int64)), .second, .unset] [(.int (4 : Int32))])) t → Steps p.tables e below (s₁.setTop (mkF m 0 #[.val (.ref a1), .val (.int p1), .unset, .unset, .unset, .unset] [])) t := fun t k => R145 t (st146 _ k)
  have R148 : ∀ t, Steps p.tables e below (T146.setTop (mkF m 15 #[.val (.ref a1), .val (.int p1), .val (.int (p1 * (4 : Int32))), .val (.long (0 : Int64)), .second, .unset] [(.int ((4 : Int32) - (1 : Int32)))])) t → Steps p.tables e below (s₁.setTop (mkF m 0 #[.val (.ref a1), .val (.int p1), .unset, .unset, .unset, .unset] [])) t := by
    intro t k
    refine R147 t ?_
    refine XS.iconst X146.here hx rfl (hb hby d5_13) ?_
    refine XS.isub X146.here hx rfl (hb hby d5_14) rfl ?_
    exact k
  have R149 : ∀ t, Steps p.tables e below (T146.setTop (mkF m 17 #[.val (.ref a1), .val (.int p1), .val (.int (p1 * (4 : Int32))), .val (.long (0 : Int64)), .second, .val (.int (3 : Int32))] [])) t → Steps p.tables e below (s₁.setTop (mkF m 0 #[.val (.ref a1), .val (.int p1), .unset, .unset, .unset, .unset] [])) t := by
    intro t k
    refine R148 t ?_
    refine XS.istore X146.here hx rfl (hb hby d5_15) rfl (l' := #[.val (.ref a1), .val (.int p1), .val (.int (p1 * (4 : Int32))), .val (.long (0 : Int64)), .second, .val (.int (3 : Int32))]) rfl ?_
    exact k
  have R150 : ∀ t, Steps p.tables e below (T146.setTop (mkF m 19 #[.val (.ref a1), .val (.int p1), .val (.int (p1 * (4 : Int32))), .val (.long (0 : Int64)), .second, .val (.int (3 : Int32))] [(.int (3 : Int32))])) t → Steps p.tables e below (s₁.setTop (mkF m 0 #[.val (.ref a1), .val (.int p1), .unset, .unset, .unset, .unset] [])) t := by
    intro t k
    refine R149 t ?_
    refine XS.iload X146.here hx rfl (hb hby d5_17) rfl ?_
    exact k
  have R151 : ∀ t, Steps p.tables e below (T146.setTop (mkF m 22 #[.val (.ref a1), .val (.int p1), .val (.int (p1 * (4 : Int32))), .val (.long (0 : Int64)), .second, .val (.int (3 : Int32))] [])) t → Steps p.tables e below (s₁.setTop (mkF m 0 #[.val (.ref a1), .val (.int p1), .unset, .unset, .unset, .unset] [])) t := by
    intro t k
    refine R150 t ?_
    refine XS.ifNo X146.here hx rfl (hb hby d5_19) rfl ((if0 _ _).trans (flt (by decide)).1) ?_
    exact k
  have R152 : ∀ t, Steps p.tables e below (T146.setTop (mkF m 27 #[.val (.ref a1), .val (.int p1), .val (.int (p1 * (4 : Int32))), .val (.long (0 : Int64)), .second, .val (.int (3 : Int32))] [(.ref a1), (.long (((0 : Int64) <<< ((8 : Int32) &&& 0x3f).toInt64)))])) t → Steps p.tables e below (s₁.setTop (mkF m 0 #[.val (.ref a1), .val (.int p1), .unset, .unset, .unset, .unset] [])) t := by
    intro t k
    refine R151 t ?_
    refine XS.lloadN X146.here hx rfl (hb hby d5_22) rfl ?_
    refine XS.bipush X146.here hx rfl (hb hby d5_23) ?_
    refine XS.lshl X146.here hx rfl (hb hby d5_25) rfl ?_
    refine XS.aloadN X146.here hx rfl (hb hby d5_26) rfl rfl ?_
    exact k
  obtain ⟨T153, X153, e153, st153⟩ := getF X146 hx hZ hown (host := "") (Or.inl (hw _ (List.mem_of_getElem? (i := 24) rfl))) Via.refl e146 F_02 (g := (mkF m 27 #[.val (.ref a1), .val (.int p1), .val (.int (p1 * (4 : Int32))), .val (.long (0 : Int64)), .second, .val (.int (3 : Int32))] [(.ref a1), (.long (((0 : Int64) <<< ((8 : Int32) &&& 0x3f).toInt64)))])) rfl rfl (hb hby d5_27)
  have R154 : ∀ t, Steps p.tables e below (T153.setTop (mkF m 30 #[.val (.ref a1), .val (.int p1), .val (.int (p1 * (4 : Int32))), .val (.long (0 : Int64)), .second, .val (.int (3 : Int32))] [(.ref ta), (.long (((0 : Int64) <<< ((8 : Int32) &&& 0x3f).toInt64)))])) t → Steps p.tables e below (s₁.setTop (mkF m 0 #[.val (.ref a1), .val (.int p1), .unset, .unset, .unset, .unset] [])) t := fun t k => R152 t (st153 _ k)
  have R155 : ∀ t, Steps p.tables e below (T153.setTop (mkF m 34 #[.val (.ref a1), .val (.int p1), .val (.int (p1 * (4 : Int32))), .val (.long (0 : Int64)), .second, .val (.int (3 : Int32))] [(.int ((p1 * (4 : Int32)) + (3 : Int32))), (.ref ta), (.long (((0 : Int64) <<< ((8 : Int32) &&& 0x3f).toInt64)))])) t → Steps p.tables e below (s₁.setTop (mkF m 0 #[.val (.ref a1), .val (.int p1), .unset, .unset, .unset, .unset] [])) t := by
    intro t k
    refine R154 t ?_
    refine XS.iloadN X153.here hx rfl (hb hby d5_30) rfl ?_
    refine XS.iload X153.here hx rfl (hb hby d5_31) rfl ?_
    refine XS.iadd X153.here hx rfl (hb hby d5_33) rfl ?_
    exact k
  obtain ⟨cl156, Ar156, q156, Sz156, Nn156, Hh156, G156⟩ := id V_0
  have hin156 : ¬ (((p1 * (4 : Int32)) + (3 : Int32)) < 0 ∨ cl156.slots.size ≤ (((p1 * (4 : Int32)) + (3 : Int32))).toNatClampNeg) := inb_of Sz156 (hg 3 (by decide)).1
  have R157 : ∀ t, Steps p.tables e below (T153.setTop (mkF m 35 #[.val (.ref a1), .val (.int p1), .val (.int (p1 * (4 : Int32))), .val (.long (0 : Int64)), .second, .val (.int (3 : Int32))] [(.int (g 3)), (.long (((0 : Int64) <<< ((8 : Int32) &&& 0x3f).toInt64)))])) t → Steps p.tables e below (s₁.setTop (mkF m 0 #[.val (.ref a1), .val (.int p1), .unset, .unset, .unset, .unset] [])) t := by
    intro t k
    refine R155 t ?_
    refine X153.baloadBytes hx (j := ((p1 * (4 : Int32)) + (3 : Int32))) (v := (.int (g 3))) (by rw [e153]; exact Ar156.1) (State.isArrayOf_alike hZ.alike Ar156.2.1) Ar156.2.2 hin156 (Hh156.at hin156 (hg 3 (by decide)).2) (g := (mkF m 34 #[.val (.ref a1), .val (.int p1), .val (.int (p1 * (4 : Int32))), .val (.long (0 : Int64)), .second, .val (.int (3 : Int32))] [(.int ((p1 * (4 : Int32)) + (3 : Int32))), (.ref ta), (.long (((0 : Int64) <<< ((8 : Int32) &&& 0x3f).toInt64)))])) rfl rfl (hb hby d5_34) _ ?_
    exact k
  have R158 : ∀ t, Steps p.tables e below (T153.setTop (mkF m 41 #[.val (.ref a1), .val (.int p1), .val (.int (p1 * (4 : Int32))), .val (.long (0 : Int64)), .second, .val (.int (3 : Int32))] [(.long ((((0 : Int64) <<< ((8 : Int32) &&& 0x3f).toInt64)) ||| ((((g 3) &&& (255 : Int32))).toInt64)))])) t → Steps p.tables e below (s₁.setTop (mkF m 0 #[.val (.ref a1), .val (.int p1), .unset, .unset, .unset, .unset] [])) t := by
    intro t k
    refine R157 t ?_
    refine XS.sipush X153.here hx rfl (hb hby d5_35) ?_
    refine XS.iand X153.here hx rfl (hb hby d5_38) rfl ?_
    refine XS.i2l X153.here hx rfl (hb hby d5_39) rfl ?_
    refine XS.lor X153.here hx rfl (hb hby d5_40) rfl ?_
    exact k
  have R159 : ∀ t, Steps p.tables e below (T153.setTop (mkF m 42 #[.val (.ref a1), .val (.int p1), .val (.int (p1 * (4 : Int32))), .val (.long (own_acc g 4 1)), .second, .val (.int (3 : Int32))] [])) t → Steps p.tables e below (s₁.setTop (mkF m 0 #[.val (.ref a1), .val (.int p1), .unset, .unset, .unset, .unset] [])) t := by
    intro t k
    refine R158 t ?_
    refine XS.lstoreN X153.here hx rfl (hb hby d5_41) rfl (l' := #[.val (.ref a1), .val (.int p1), .val (.int (p1 * (4 : Int32))), .val (.long (own_acc g 4 1)), .second, .val (.int (3 : Int32))]) rfl ?_
    exact k
  have R160 : ∀ t, Steps p.tables e below (T153.setTop (mkF m 45 #[.val (.ref a1), .val (.int p1), .val (.int (p1 * (4 : Int32))), .val (.long (own_acc g 4 1)), .second, .val (.int ((3 : Int32) + (-1 : Int32)))] [])) t → Steps p.tables e below (s₁.setTop (mkF m 0 #[.val (.ref a1), .val (.int p1), .unset, .unset, .unset, .unset] [])) t := by
    intro t k
    refine R159 t ?_
    refine XS.iinc X153.here hx rfl (hb hby d5_42) rfl (l' := #[.val (.ref a1), .val (.int p1), .val (.int (p1 * (4 : Int32))), .val (.long (own_acc g 4 1)), .second, .val (.int ((3 : Int32) + (-1 : Int32)))]) rfl ?_
    exact k
  have R161 : ∀ t, Steps p.tables e below (T153.setTop (mkF m 17 #[.val (.ref a1), .val (.int p1), .val (.int (p1 * (4 : Int32))), .val (.long (own_acc g 4 1)), .second, .val (.int (2 : Int32))] [])) t → Steps p.tables e below (s₁.setTop (mkF m 0 #[.val (.ref a1), .val (.int p1), .unset, .unset, .unset, .unset] [])) t := by
    intro t k
    refine R160 t ?_
    refine XS.goto X153.here hx rfl (pc0 := 45) (pc' := 17) rfl (hb hby d5_45) (by decide) (by decide) ?_
    exact k
  have R162 : ∀ t, Steps p.tables e below (T153.setTop (mkF m 19 #[.val (.ref a1), .val (.int p1), .val (.int (p1 * (4 : Int32))), .val (.long (own_acc g 4 1)), .second, .val (.int (2 : Int32))] [(.int (2 : Int32))])) t → Steps p.tables e below (s₁.setTop (mkF m 0 #[.val (.ref a1), .val (.int p1), .unset, .unset, .unset, .unset] [])) t := by
    intro t k
    refine R161 t ?_
    refine XS.iload X153.here hx rfl (hb hby d5_17) rfl ?_
    exact k
  have R163 : ∀ t, Steps p.tables e below (T153.setTop (mkF m 22 #[.val (.ref a1), .val (.int p1), .val (.int (p1 * (4 : Int32))), .val (.long (own_acc g 4 1)), .second, .val (.int (2 : Int32))] [])) t → Steps p.tables e below (s₁.setTop (mkF m 0 #[.val (.ref a1), .val (.int p1), .unset, .unset, .unset, .unset] [])) t := by
    intro t k
    refine R162 t ?_
    refine XS.ifNo X153.here hx rfl (hb hby d5_19) rfl ((if0 _ _).trans (flt (by decide)).1) ?_
    exact k
  have R164 : ∀ t, Steps p.tables e below (T153.setTop (mkF m 27 #[.val (.ref a1), .val (.int p1), .val (.int (p1 * (4 : Int32))), .val (.long (own_acc g 4 1)), .second, .val (.int (2 : Int32))] [(.ref a1), (.long (((own_acc g 4 1) <<< ((8 : Int32) &&& 0x3f).toInt64)))])) t → Steps p.tables e below (s₁.setTop (mkF m 0 #[.val (.ref a1), .val (.int p1), .unset, .unset, .unset, .unset] [])) t := by
    intro t k
    refine R163 t ?_
    refine XS.lloadN X153.here hx rfl (hb hby d5_22) rfl ?_
    refine XS.bipush X153.here hx rfl (hb hby d5_23) ?_
    refine XS.lshl X153.here hx rfl (hb hby d5_25) rfl ?_
    refine XS.aloadN X153.here hx rfl (hb hby d5_26) rfl rfl ?_
    exact k
  obtain ⟨T165, X165, e165, st165⟩ := getF X153 hx hZ hown (host := "") (Or.inl (hw _ (List.mem_of_getElem? (i := 24) rfl))) Via.refl e153 F_02 (g := (mkF m 27 #[.val (.ref a1), .val (.int p1), .val (.int (p1 * (4 : Int32))), .val (.long (own_acc g 4 1)), .second, .val (.int (2 : Int32))] [(.ref a1), (.long (((own_acc g 4 1) <<< ((8 : Int32) &&& 0x3f).toInt64)))])) rfl rfl (hb hby d5_27)
  have R166 : ∀ t, Steps p.tables e below (T165.setTop (mkF m 30 #[.val (.ref a1), .val (.int p1), .val (.int (p1 * (4 : Int32))), .val (.long (own_acc g 4 1)), .second, .val (.int (2 : Int32))] [(.ref ta), (.long (((own_acc g 4 1) <<< ((8 : Int32) &&& 0x3f).toInt64)))])) t → Steps p.tables e below (s₁.setTop (mkF m 0 #[.val (.ref a1), .val (.int p1), .unset, .unset, .unset, .unset] [])) t := fun t k => R164 t (st165 _ k)
  have R167 : ∀ t, Steps p.tables e below (T165.setTop (mkF m 34 #[.val (.ref a1), .val (.int p1), .val (.int (p1 * (4 : Int32))), .val (.long (own_acc g 4 1)), .second, .val (.int (2 : Int32))] [(.int ((p1 * (4 : Int32)) + (2 : Int32))), (.ref ta), (.long (((own_acc g 4 1) <<< ((8 : Int32) &&& 0x3f).toInt64)))])) t → Steps p.tables e below (s₁.setTop (mkF m 0 #[.val (.ref a1), .val (.int p1), .unset, .unset, .unset, .unset] [])) t := by
    intro t k
    refine R166 t ?_
    refine XS.iloadN X165.here hx rfl (hb hby d5_30) rfl ?_
    refine XS.iload X165.here hx rfl (hb hby d5_31) rfl ?_
    refine XS.iadd X165.here hx rfl (hb hby d5_33) rfl ?_
    exact k
  obtain ⟨cl168, Ar168, q168, Sz168, Nn168, Hh168, G168⟩ := id V_0
  have hin168 : ¬ (((p1 * (4 : Int32)) + (2 : Int32)) < 0 ∨ cl168.slots.size ≤ (((p1 * (4 : Int32)) + (2 : Int32))).toNatClampNeg) := inb_of Sz168 (hg 2 (by decide)).1
  have R169 : ∀ t, Steps p.tables e below (T165.setTop (mkF m 35 #[.val (.ref a1), .val (.int p1), .val (.int (p1 * (4 : Int32))), .val (.long (own_acc g 4 1)), .second, .val (.int (2 : Int32))] [(.int (g 2)), (.long (((own_acc g 4 1) <<< ((8 : Int32) &&& 0x3f).toInt64)))])) t → Steps p.tables e below (s₁.setTop (mkF m 0 #[.val (.ref a1), .val (.int p1), .unset, .unset, .unset, .unset] [])) t := by
    intro t k
    refine R167 t ?_
    refine X165.baloadBytes hx (j := ((p1 * (4 : Int32)) + (2 : Int32))) (v := (.int (g 2))) (by rw [e165]; exact Ar168.1) (State.isArrayOf_alike hZ.alike Ar168.2.1) Ar168.2.2 hin168 (Hh168.at hin168 (hg 2 (by decide)).2) (g := (mkF m 34 #[.val (.ref a1), .val (.int p1), .val (.int (p1 * (4 : Int32))), .val (.long (own_acc g 4 1)), .second, .val (.int (2 : Int32))] [(.int ((p1 * (4 : Int32)) + (2 : Int32))), (.ref ta), (.long (((own_acc g 4 1) <<< ((8 : Int32) &&& 0x3f).toInt64)))])) rfl rfl (hb hby d5_34) _ ?_
    exact k
  have R170 : ∀ t, Steps p.tables e below (T165.setTop (mkF m 41 #[.val (.ref a1), .val (.int p1), .val (.int (p1 * (4 : Int32))), .val (.long (own_acc g 4 1)), .second, .val (.int (2 : Int32))] [(.long ((((own_acc g 4 1) <<< ((8 : Int32) &&& 0x3f).toInt64)) ||| ((((g 2) &&& (255 : Int32))).toInt64)))])) t → Steps p.tables e below (s₁.setTop (mkF m 0 #[.val (.ref a1), .val (.int p1), .unset, .unset, .unset, .unset] [])) t := by
    intro t k
    refine R169 t ?_
    refine XS.sipush X165.here hx rfl (hb hby d5_35) ?_
    refine XS.iand X165.here hx rfl (hb hby d5_38) rfl ?_
    refine XS.i2l X165.here hx rfl (hb hby d5_39) rfl ?_
    refine XS.lor X165.here hx rfl (hb hby d5_40) rfl ?_
    exact k
  have R171 : ∀ t, Steps p.tables e below (T165.setTop (mkF m 42 #[.val (.ref a1), .val (.int p1), .val (.int (p1 * (4 : Int32))), .val (.long (own_acc g 4 2)), .second, .val (.int (2 : Int32))] [])) t → Steps p.tables e below (s₁.setTop (mkF m 0 #[.val (.ref a1), .val (.int p1), .unset, .unset, .unset, .unset] [])) t := by
    intro t k
    refine R170 t ?_
    refine XS.lstoreN X165.here hx rfl (hb hby d5_41) rfl (l' := #[.val (.ref a1), .val (.int p1), .val (.int (p1 * (4 : Int32))), .val (.long (own_acc g 4 2)), .second, .val (.int (2 : Int32))]) rfl ?_
    exact k
  have R172 : ∀ t, Steps p.tables e below (T165.setTop (mkF m 45 #[.val (.ref a1), .val (.int p1), .val (.int (p1 * (4 : Int32))), .val (.long (own_acc g 4 2)), .second, .val (.int ((2 : Int32) + (-1 : Int32)))] [])) t → Steps p.tables e below (s₁.setTop (mkF m 0 #[.val (.ref a1), .val (.int p1), .unset, .unset, .unset, .unset] [])) t := by
    intro t k
    refine R171 t ?_
    refine XS.iinc X165.here hx rfl (hb hby d5_42) rfl (l' := #[.val (.ref a1), .val (.int p1), .val (.int (p1 * (4 : Int32))), .val (.long (own_acc g 4 2)), .second, .val (.int ((2 : Int32) + (-1 : Int32)))]) rfl ?_
    exact k
  have R173 : ∀ t, Steps p.tables e below (T165.setTop (mkF m 17 #[.val (.ref a1), .val (.int p1), .val (.int (p1 * (4 : Int32))), .val (.long (own_acc g 4 2)), .second, .val (.int (1 : Int32))] [])) t → Steps p.tables e below (s₁.setTop (mkF m 0 #[.val (.ref a1), .val (.int p1), .unset, .unset, .unset, .unset] [])) t := by
    intro t k
    refine R172 t ?_
    refine XS.goto X165.here hx rfl (pc0 := 45) (pc' := 17) rfl (hb hby d5_45) (by decide) (by decide) ?_
    exact k
  have R174 : ∀ t, Steps p.tables e below (T165.setTop (mkF m 19 #[.val (.ref a1), .val (.int p1), .val (.int (p1 * (4 : Int32))), .val (.long (own_acc g 4 2)), .second, .val (.int (1 : Int32))] [(.int (1 : Int32))])) t → Steps p.tables e below (s₁.setTop (mkF m 0 #[.val (.ref a1), .val (.int p1), .unset, .unset, .unset, .unset] [])) t := by
    intro t k
    refine R173 t ?_
    refine XS.iload X165.here hx rfl (hb hby d5_17) rfl ?_
    exact k
  have R175 : ∀ t, Steps p.tables e below (T165.setTop (mkF m 22 #[.val (.ref a1), .val (.int p1), .val (.int (p1 * (4 : Int32))), .val (.long (own_acc g 4 2)), .second, .val (.int (1 : Int32))] [])) t → Steps p.tables e below (s₁.setTop (mkF m 0 #[.val (.ref a1), .val (.int p1), .unset, .unset, .unset, .unset] [])) t := by
    intro t k
    refine R174 t ?_
    refine XS.ifNo X165.here hx rfl (hb hby d5_19) rfl ((if0 _ _).trans (flt (by decide)).1) ?_
    exact k
  have R176 : ∀ t, Steps p.tables e below (T165.setTop (mkF m 27 #[.val (.ref a1), .val (.int p1), .val (.int (p1 * (4 : Int32))), .val (.long (own_acc g 4 2)), .second, .val (.int (1 : Int32))] [(.ref a1), (.long (((own_acc g 4 2) <<< ((8 : Int32) &&& 0x3f).toInt64)))])) t → Steps p.tables e below (s₁.setTop (mkF m 0 #[.val (.ref a1), .val (.int p1), .unset, .unset, .unset, .unset] [])) t := by
    intro t k
    refine R175 t ?_
    refine XS.lloadN X165.here hx rfl (hb hby d5_22) rfl ?_
    refine XS.bipush X165.here hx rfl (hb hby d5_23) ?_
    refine XS.lshl X165.here hx rfl (hb hby d5_25) rfl ?_
    refine XS.aloadN X165.here hx rfl (hb hby d5_26) rfl rfl ?_
    exact k
  obtain ⟨T177, X177, e177, st177⟩ := getF X165 hx hZ hown (host := "") (Or.inl (hw _ (List.mem_of_getElem? (i := 24) rfl))) Via.refl e165 F_02 (g := (mkF m 27 #[.val (.ref a1), .val (.int p1), .val (.int (p1 * (4 : Int32))), .val (.long (own_acc g 4 2)), .second, .val (.int (1 : Int32))] [(.ref a1), (.long (((own_acc g 4 2) <<< ((8 : Int32) &&& 0x3f).toInt64)))])) rfl rfl (hb hby d5_27)
  have R178 : ∀ t, Steps p.tables e below (T177.setTop (mkF m 30 #[.val (.ref a1), .val (.int p1), .val (.int (p1 * (4 : Int32))), .val (.long (own_acc g 4 2)), .second, .val (.int (1 : Int32))] [(.ref ta), (.long (((own_acc g 4 2) <<< ((8 : Int32) &&& 0x3f).toInt64)))])) t → Steps p.tables e below (s₁.setTop (mkF m 0 #[.val (.ref a1), .val (.int p1), .unset, .unset, .unset, .unset] [])) t := fun t k => R176 t (st177 _ k)
  have R179 : ∀ t, Steps p.tables e below (T177.setTop (mkF m 34 #[.val (.ref a1), .val (.int p1), .val (.int (p1 * (4 : Int32))), .val (.long (own_acc g 4 2)), .second, .val (.int (1 : Int32))] [(.int ((p1 * (4 : Int32)) + (1 : Int32))), (.ref ta), (.long (((own_acc g 4 2) <<< ((8 : Int32) &&& 0x3f).toInt64)))])) t → Steps p.tables e below (s₁.setTop (mkF m 0 #[.val (.ref a1), .val (.int p1), .unset, .unset, .unset, .unset] [])) t := by
    intro t k
    refine R178 t ?_
    refine XS.iloadN X177.here hx rfl (hb hby d5_30) rfl ?_
    refine XS.iload X177.here hx rfl (hb hby d5_31) rfl ?_
    refine XS.iadd X177.here hx rfl (hb hby d5_33) rfl ?_
    exact k
  obtain ⟨cl180, Ar180, q180, Sz180, Nn180, Hh180, G180⟩ := id V_0
  have hin180 : ¬ (((p1 * (4 : Int32)) + (1 : Int32)) < 0 ∨ cl180.slots.size ≤ (((p1 * (4 : Int32)) + (1 : Int32))).toNatClampNeg) := inb_of Sz180 (hg 1 (by decide)).1
  have R181 : ∀ t, Steps p.tables e below (T177.setTop (mkF m 35 #[.val (.ref a1), .val (.int p1), .val (.int (p1 * (4 : Int32))), .val (.long (own_acc g 4 2)), .second, .val (.int (1 : Int32))] [(.int (g 1)), (.long (((own_acc g 4 2) <<< ((8 : Int32) &&& 0x3f).toInt64)))])) t → Steps p.tables e below (s₁.setTop (mkF m 0 #[.val (.ref a1), .val (.int p1), .unset, .unset, .unset, .unset] [])) t := by
    intro t k
    refine R179 t ?_
    refine X177.baloadBytes hx (j := ((p1 * (4 : Int32)) + (1 : Int32))) (v := (.int (g 1))) (by rw [e177]; exact Ar180.1) (State.isArrayOf_alike hZ.alike Ar180.2.1) Ar180.2.2 hin180 (Hh180.at hin180 (hg 1 (by decide)).2) (g := (mkF m 34 #[.val (.ref a1), .val (.int p1), .val (.int (p1 * (4 : Int32))), .val (.long (own_acc g 4 2)), .second, .val (.int (1 : Int32))] [(.int ((p1 * (4 : Int32)) + (1 : Int32))), (.ref ta), (.long (((own_acc g 4 2) <<< ((8 : Int32) &&& 0x3f).toInt64)))])) rfl rfl (hb hby d5_34) _ ?_
    exact k
  have R182 : ∀ t, Steps p.tables e below (T177.setTop (mkF m 41 #[.val (.ref a1), .val (.int p1), .val (.int (p1 * (4 : Int32))), .val (.long (own_acc g 4 2)), .second, .val (.int (1 : Int32))] [(.long ((((own_acc g 4 2) <<< ((8 : Int32) &&& 0x3f).toInt64)) ||| ((((g 1) &&& (255 : Int32))).toInt64)))])) t → Steps p.tables e below (s₁.setTop (mkF m 0 #[.val (.ref a1), .val (.int p1), .unset, .unset, .unset, .unset] [])) t := by
    intro t k
    refine R181 t ?_
    refine XS.sipush X177.here hx rfl (hb hby d5_35) ?_
    refine XS.iand X177.here hx rfl (hb hby d5_38) rfl ?_
    refine XS.i2l X177.here hx rfl (hb hby d5_39) rfl ?_
    refine XS.lor X177.here hx rfl (hb hby d5_40) rfl ?_
    exact k
  have R183 : ∀ t, Steps p.tables e below (T177.setTop (mkF m 42 #[.val (.ref a1), .val (.int p1), .val (.int (p1 * (4 : Int32))), .val (.long (own_acc g 4 3)), .second, .val (.int (1 : Int32))] [])) t → Steps p.tables e below (s₁.setTop (mkF m 0 #[.val (.ref a1), .val (.int p1), .unset, .unset, .unset, .unset] [])) t := by
    intro t k
    refine R182 t ?_
    refine XS.lstoreN X177.here hx rfl (hb hby d5_41) rfl (l' := #[.val (.ref a1), .val (.int p1), .val (.int (p1 * (4 : Int32))), .val (.long (own_acc g 4 3)), .second, .val (.int (1 : Int32))]) rfl ?_
    exact k
  have R184 : ∀ t, Steps p.tables e below (T177.setTop (mkF m 45 #[.val (.ref a1), .val (.int p1), .val (.int (p1 * (4 : Int32))), .val (.long (own_acc g 4 3)), .second, .val (.int ((1 : Int32) + (-1 : Int32)))] [])) t → Steps p.tables e below (s₁.setTop (mkF m 0 #[.val (.ref a1), .val (.int p1), .unset, .unset, .unset, .unset] [])) t := by
    intro t k
    refine R183 t ?_
    refine XS.iinc X177.here hx rfl (hb hby d5_42) rfl (l' := #[.val (.ref a1), .val (.int p1), .val (.int (p1 * (4 : Int32))), .val (.long (own_acc g 4 3)), .second, .val (.int ((1 : Int32) + (-1 : Int32)))]) rfl ?_
    exact k
  have R185 : ∀ t, Steps p.tables e below (T177.setTop (mkF m 17 #[.val (.ref a1), .val (.int p1), .val (.int (p1 * (4 : Int32))), .val (.long (own_acc g 4 3)), .second, .val (.int (0 : Int32))] [])) t → Steps p.tables e below (s₁.setTop (mkF m 0 #[.val (.ref a1), .val (.int p1), .unset, .unset, .unset, .unset] [])) t := by
    intro t k
    refine R184 t ?_
    refine XS.goto X177.here hx rfl (pc0 := 45) (pc' := 17) rfl (hb hby d5_45) (by decide) (by decide) ?_
    exact k
  have R186 : ∀ t, Steps p.tables e below (T177.setTop (mkF m 19 #[.val (.ref a1), .val (.int p1), .val (.int (p1 * (4 : Int32))), .val (.long (own_acc g 4 3)), .second, .val (.int (0 : Int32))] [(.int (0 : Int32))])) t → Steps p.tables e below (s₁.setTop (mkF m 0 #[.val (.ref a1), .val (.int p1), .unset, .unset, .unset, .unset] [])) t := by
    intro t k
    refine R185 t ?_
    refine XS.iload X177.here hx rfl (hb hby d5_17) rfl ?_
    exact k
  have R187 : ∀ t, Steps p.tables e below (T177.setTop (mkF m 22 #[.val (.ref a1), .val (.int p1), .val (.int (p1 * (4 : Int32))), .val (.long (own_acc g 4 3)), .second, .val (.int (0 : Int32))] [])) t → Steps p.tables e below (s₁.setTop (mkF m 0 #[.val (.ref a1), .val (.int p1), .unset, .unset, .unset, .unset] [])) t := by
    intro t k
    refine R186 t ?_
    refine XS.ifNo X177.here hx rfl (hb hby d5_19) rfl ((if0 _ _).trans (flt (by decide)).1) ?_
    exact k
  have R188 : ∀ t, Steps p.tables e below (T177.setTop (mkF m 27 #[.val (.ref a1), .val (.int p1), .val (.int (p1 * (4 : Int32))), .val (.long (own_acc g 4 3)), .second, .val (.int (0 : Int32))] [(.ref a1), (.long (((own_acc g 4 3) <<< ((8 : Int32) &&& 0x3f).toInt64)))])) t → Steps p.tables e below (s₁.setTop (mkF m 0 #[.val (.ref a1), .val (.int p1), .unset, .unset, .unset, .unset] [])) t := by
    intro t k
    refine R187 t ?_
    refine XS.lloadN X177.here hx rfl (hb hby d5_22) rfl ?_
    refine XS.bipush X177.here hx rfl (hb hby d5_23) ?_
    refine XS.lshl X177.here hx rfl (hb hby d5_25) rfl ?_
    refine XS.aloadN X177.here hx rfl (hb hby d5_26) rfl rfl ?_
    exact k
  obtain ⟨T189, X189, e189, st189⟩ := getF X177 hx hZ hown (host := "") (Or.inl (hw _ (List.mem_of_getElem? (i := 24) rfl))) Via.refl e177 F_02 (g := (mkF m 27 #[.val (.ref a1), .val (.int p1), .val (.int (p1 * (4 : Int32))), .val (.long (own_acc g 4 3)), .second, .val (.int (0 : Int32))] [(.ref a1), (.long (((own_acc g 4 3) <<< ((8 : Int32) &&& 0x3f).toInt64)))])) rfl rfl (hb hby d5_27)
  have R190 : ∀ t, Steps p.tables e below (T189.setTop (mkF m 30 #[.val (.ref a1), .val (.int p1), .val (.int (p1 * (4 : Int32))), .val (.long (own_acc g 4 3)), .second, .val (.int (0 : Int32))] [(.ref ta), (.long (((own_acc g 4 3) <<< ((8 : Int32) &&& 0x3f).toInt64)))])) t → Steps p.tables e below (s₁.setTop (mkF m 0 #[.val (.ref a1), .val (.int p1), .unset, .unset, .unset, .unset] [])) t := fun t k => R188 t (st189 _ k)
  have R191 : ∀ t, Steps p.tables e below (T189.setTop (mkF m 34 #[.val (.ref a1), .val (.int p1), .val (.int (p1 * (4 : Int32))), .val (.long (own_acc g 4 3)), .second, .val (.int (0 : Int32))] [(.int ((p1 * (4 : Int32)) + (0 : Int32))), (.ref ta), (.long (((own_acc g 4 3) <<< ((8 : Int32) &&& 0x3f).toInt64)))])) t → Steps p.tables e below (s₁.setTop (mkF m 0 #[.val (.ref a1), .val (.int p1), .unset, .unset, .unset, .unset] [])) t := by
    intro t k
    refine R190 t ?_
    refine XS.iloadN X189.here hx rfl (hb hby d5_30) rfl ?_
    refine XS.iload X189.here hx rfl (hb hby d5_31) rfl ?_
    refine XS.iadd X189.here hx rfl (hb hby d5_33) rfl ?_
    exact k
  obtain ⟨cl192, Ar192, q192, Sz192, Nn192, Hh192, G192⟩ := id V_0
  have hin192 : ¬ (((p1 * (4 : Int32)) + (0 : Int32)) < 0 ∨ cl192.slots.size ≤ (((p1 * (4 : Int32)) + (0 : Int32))).toNatClampNeg) := inb_of Sz192 (hg 0 (by decide)).1
  have R193 : ∀ t, Steps p.tables e below (T189.setTop (mkF m 35 #[.val (.ref a1), .val (.int p1), .val (.int (p1 * (4 : Int32))), .val (.long (own_acc g 4 3)), .second, .val (.int (0 : Int32))] [(.int (g 0)), (.long (((own_acc g 4 3) <<< ((8 : Int32) &&& 0x3f).toInt64)))])) t → Steps p.tables e below (s₁.setTop (mkF m 0 #[.val (.ref a1), .val (.int p1), .unset, .unset, .unset, .unset] [])) t := by
    intro t k
    refine R191 t ?_
    refine X189.baloadBytes hx (j := ((p1 * (4 : Int32)) + (0 : Int32))) (v := (.int (g 0))) (by rw [e189]; exact Ar192.1) (State.isArrayOf_alike hZ.alike Ar192.2.1) Ar192.2.2 hin192 (Hh192.at hin192 (hg 0 (by decide)).2) (g := (mkF m 34 #[.val (.ref a1), .val (.int p1), .val (.int (p1 * (4 : Int32))), .val (.long (own_acc g 4 3)), .second, .val (.int (0 : Int32))] [(.int ((p1 * (4 : Int32)) + (0 : Int32))), (.ref ta), (.long (((own_acc g 4 3) <<< ((8 : Int32) &&& 0x3f).toInt64)))])) rfl rfl (hb hby d5_34) _ ?_
    exact k
  have R194 : ∀ t, Steps p.tables e below (T189.setTop (mkF m 41 #[.val (.ref a1), .val (.int p1), .val (.int (p1 * (4 : Int32))), .val (.long (own_acc g 4 3)), .second, .val (.int (0 : Int32))] [(.long ((((own_acc g 4 3) <<< ((8 : Int32) &&& 0x3f).toInt64)) ||| ((((g 0) &&& (255 : Int32))).toInt64)))])) t → Steps p.tables e below (s₁.setTop (mkF m 0 #[.val (.ref a1), .val (.int p1), .unset, .unset, .unset, .unset] [])) t := by
    intro t k
    refine R193 t ?_
    refine XS.sipush X189.here hx rfl (hb hby d5_35) ?_
    refine XS.iand X189.here hx rfl (hb hby d5_38) rfl ?_
    refine XS.i2l X189.here hx rfl (hb hby d5_39) rfl ?_
    refine XS.lor X189.here hx rfl (hb hby d5_40) rfl ?_
    exact k
  have R195 : ∀ t, Steps p.tables e below (T189.setTop (mkF m 42 #[.val (.ref a1), .val (.int p1), .val (.int (p1 * (4 : Int32))), .val (.long (own_acc g 4 4)), .second, .val (.int (0 : Int32))] [])) t → Steps p.tables e below (s₁.setTop (mkF m 0 #[.val (.ref a1), .val (.int p1), .unset, .unset, .unset, .unset] [])) t := by
    intro t k
    refine R194 t ?_
    refine XS.lstoreN X189.here hx rfl (hb hby d5_41) rfl (l' := #[.val (.ref a1), .val (.int p1), .val (.int (p1 * (4 : Int32))), .val (.long (own_acc g 4 4)), .second, .val (.int (0 : Int32))]) rfl ?_
    exact k
  have R196 : ∀ t, Steps p.tables e below (T189.setTop (mkF m 45 #[.val (.ref a1), .val (.int p1), .val (.int (p1 * (4 : Int32))), .val (.long (own_acc g 4 4)), .second, .val (.int ((0 : Int32) + (-1 : Int32)))] [])) t → Steps p.tables e below (s₁.setTop (mkF m 0 #[.val (.ref a1), .val (.int p1), .unset, .unset, .unset, .unset] [])) t := by
    intro t k
    refine R195 t ?_
    refine XS.iinc X189.here hx rfl (hb hby d5_42) rfl (l' := #[.val (.ref a1), .val (.int p1), .val (.int (p1 * (4 : Int32))), .val (.long (own_acc g 4 4)), .second, .val (.int ((0 : Int32) + (-1 : Int32)))]) rfl ?_
    exact k
  have R197 : ∀ t, Steps p.tables e below (T189.setTop (mkF m 17 #[.val (.ref a1), .val (.int p1), .val (.int (p1 * (4 : Int32))), .val (.long (own_acc g 4 4)), .second, .val (.int (-1 : Int32))] [])) t → Steps p.tables e below (s₁.setTop (mkF m 0 #[.val (.ref a1), .val (.int p1), .unset, .unset, .unset, .unset] [])) t := by
    intro t k
    refine R196 t ?_
    refine XS.goto X189.here hx rfl (pc0 := 45) (pc' := 17) rfl (hb hby d5_45) (by decide) (by decide) ?_
    exact k
  have R198 : ∀ t, Steps p.tables e below (T189.setTop (mkF m 19 #[.val (.ref a1), .val (.int p1), .val (.int (p1 * (4 : Int32))), .val (.long (own_acc g 4 4)), .second, .val (.int (-1 : Int32))] [(.int (-1 : Int32))])) t → Steps p.tables e below (s₁.setTop (mkF m 0 #[.val (.ref a1), .val (.int p1), .unset, .unset, .unset, .unset] [])) t := by
    intro t k
    refine R197 t ?_
    refine XS.iload X189.here hx rfl (hb hby d5_17) rfl ?_
    exact k
  have R199 : ∀ t, Steps p.tables e below (T189.setTop (mkF m 48 #[.val (.ref a1), .val (.int p1), .val (.int (p1 * (4 : Int32))), .val (.long (own_acc g 4 4)), .second, .val (.int (-1 : Int32))] [])) t → Steps p.tables e below (s₁.setTop (mkF m 0 #[.val (.ref a1), .val (.int p1), .unset, .unset, .unset, .unset] [])) t := by
    intro t k
    refine R198 t ?_
    refine XS.ifYes X189.here hx rfl (pc0 := 19) (pc' := 48) rfl (hb hby d5_19) rfl ((if0 _ _).trans (tlt (by decide)).1) (by decide) (by decide) ?_
    exact k
  have R200 : ∀ t, Steps p.tables e below (T189.setTop (mkF m 53 #[.val (.ref a1), .val (.int p1), .val (.int (p1 * (4 : Int32))), .val (.long (own_acc g 4 4)), .second, .val (.int (-1 : Int32))] [(.ref a1), (.int (8 : Int32)), (.int (64 : Int32))])) t → Steps p.tables e below (s₁.setTop (mkF m 0 #[.val (.ref a1), .val (.int p1), .unset, .unset, .unset, .unset] [])) t := by
    intro t k
    refine R199 t ?_
    refine XS.bipush X189.here hx rfl (hb hby d5_48) ?_
    refine XS.bipush X189.here hx rfl (hb hby d5_50) ?_
    refine XS.aloadN X189.here hx rfl (hb hby d5_52) rfl rfl ?_
    exact k
  obtain ⟨T201, X201, e201, st201⟩ := getF X189 hx hZ hown (host := "") (Or.inl (hw _ (List.mem_of_getElem? (i := 22) rfl))) Via.refl e189 F_01 (g := (mkF m 53 #[.val (.ref a1), .val (.int p1), .val (.int (p1 * (4 : Int32))), .val (.long (own_acc g 4 4)), .second, .val (.int (-1 : Int32))] [(.ref a1), (.int (8 : Int32)), (.int (64 : Int32))])) rfl rfl (hb hby d5_53)
  have R202 : ∀ t, Steps p.tables e below (T201.setTop (mkF m 56 #[.val (.ref a1), .val (.int p1), .val (.int (p1 * (4 : Int32))), .val (.long (own_acc g 4 4)), .second, .val (.int (-1 : Int32))] [(.int (4 : Int32)), (.int (8 : Int32)), (.int (64 : Int32))])) t → Steps p.tables e below (s₁.setTop (mkF m 0 #[.val (.ref a1), .val (.int p1), .unset, .unset, .unset, .unset] [])) t := fun t k => R200 t (st201 _ k)
  have R203 : ∀ t, Steps p.tables e below (T201.setTop (mkF m 58 #[.val (.ref a1), .val (.int p1), .val (.int (p1 * (4 : Int32))), .val (.long (own_acc g 4 4)), .second, .val (.int (-1 : Int32))] [(.int ((64 : Int32) - ((8 : Int32) * (4 : Int32))))])) t → Steps p.tables e below (s₁.setTop (mkF m 0 #[.val (.ref a1), .val (.int p1), .unset, .unset, .unset, .unset] [])) t := by
    intro t k
    refine R202 t ?_
    refine XS.imul X201.here hx rfl (hb hby d5_56) rfl ?_
    refine XS.isub X201.here hx rfl (hb hby d5_57) rfl ?_
    exact k
  have R204 : ∀ t, Steps p.tables e below (T201.setTop (mkF m 67 #[.val (.ref a1), .val (.int p1), .val (.int (p1 * (4 : Int32))), .val (.long (own_acc g 4 4)), .second, .val (.int (32 : Int32))] [(.long (own_sx (own_acc g 4 4) (32 : Int32)))])) t → Steps p.tables e below (s₁.setTop (mkF m 0 #[.val (.ref a1), .val (.int p1), .unset, .unset, .unset, .unset] [])) t := by
    intro t k
    refine R203 t ?_
    refine XS.istore X201.here hx rfl (hb hby d5_58) rfl (l' := #[.val (.ref a1), .val (.int p1), .val (.int (p1 * (4 : Int32))), .val (.long (own_acc g 4 4)), .second, .val (.int (32 : Int32))]) rfl ?_
    refine XS.lloadN X201.here hx rfl (hb hby d5_60) rfl ?_
    refine XS.iload X201.here hx rfl (hb hby d5_61) rfl ?_
    refine XS.lshl X201.here hx rfl (hb hby d5_63) rfl ?_
    refine XS.iload X201.here hx rfl (hb hby d5_64) rfl ?_
    refine XS.lshr X201.here hx rfl (hb hby d5_66) rfl ?_
    exact k
  obtain ⟨fs, hr, hrun, hended, hW, hsame⟩ := X201.leave (v := some (.long (own_sx (own_acc g 4 4) (32 : Int32)))) (fun h => by rw [Bd.returns] at h; cases h)
  refine ⟨_, _, pre0 _ (R204 _ (retOut X201 hx (t := .long) Bd.returns rfl (Or.inr (Or.inl ⟨rfl, rfl, _, rfl⟩)) (hb hby d5_67) hr)), hrun, hended, _, _, rfl, ?_, ⟨_, rfl⟩, hW, hsame.mono (by decide) (by decide)⟩
  show Q_rme4 Z a1 p1 ta k vs g h0 n0 _ T201.heap _
  rw [e201]
  exact ⟨rfl, N0, rfl⟩
theorem ef_rme8 (m : MethodId) (x0 : Addr) (x1 : Int32) : entryFrame m #[(.ref x0), (.int x1)] 6 = mkF m 0 #[.val (.ref x0), .val (.int x1), .unset, .unset, .unset, .unset] [] := by first | (simp [entryFrame, mkF, argsToLocals, Value.category]; done) | rfl
def Q_rme8 (Z : State) (a1 : Addr) (p1 : Int32) (ta : Addr) (k : ClassId) (vs : List Value) (g : Nat → Int32) (h0 : Heap) (n0 : Nat) (v : Option Value) (h : Heap) (L : List Loc) : Prop := v = some (.long (own_sx (own_acc g 8 8) (0 : Int32))) ∧ Fr n0 L ∧ h = h0
set_option maxRecDepth 65536 in
set_option maxHeartbeats 40000000 in
theorem rme8 (l : Launch) (Z : State) (a0 : Array Value) (hw : ∀ d ∈ tables_1, d.before a0 Z = true) (ws : List Jvm.Cond) (a1 : Addr) (p1 : Int32) (ta : Addr) (k : ClassId) (vs : List Value) (g : Nat → Int32) (h0 : Heap) (n0 : Nat) (Z0 : n0 ≤ h0.size) (F_01 : Fld Z h0 a1 "com/example/rigorous_bytecode/rigorousbytecode/dex/ArrayDataPayload" "elementWidth" "I" (.int (8 : Int32))) (F_02 : Fld Z h0 a1 "com/example/rigorous_bytecode/rigorousbytecode/dex/ArrayDataPayload" "data" "[B" (.ref ta)) (V_0 : Arv Z h0 ta k .byte (16 : Int32) vs (.int (0 : Int32))) (hg : ∀ j : Nat, j < 8 → (¬ ((p1 * (8 : Int32)) + Int32.ofNat j) < 0 ∧ ((p1 * (8 : Int32)) + Int32.ofNat j) < (16 : Int32)) ∧ vs.getD ((p1 * (8 : Int32)) + Int32.ofNat j).toNatClampNeg (.int (0 : Int32)) = .int (g j)) :
    MetFree l (⟨"com/example/rigorous_bytecode/rigorousbytecode/dex/ArrayDataPayload", "element", "(I)J"⟩ : MethodName) (head1 (Jvm.Cond.code (⟨"com/example/rigorous_bytecode/rigorousbytecode/dex/ArrayDataPayload", "element", "(I)J"⟩ : MethodName) prog_44_method_5_code 6 (some .long) :: ws) ({ frames := 0, cells := 0, slots := 0, locals := 0 } : Room)) (fun a U => a = #[(.ref a1), (.int p1)] ∧ Z.Warmed39 U.vm ∧ U.heap = h0) (fun _ _ _ _ _ => True) (fun _ U o U' => ∃ v L, o = .returned v ∧ Q_rme8 Z a1 p1 ta k vs g h0 n0 v U'.heap L ∧ FrameEnd U o U' L ({ frames := 0, cells := 0, slots := 0, locals := 0 } : Room).cells ({ frames := 0, cells := 0, slots := 0, locals := 0 } : Room).slots) := by
  refine MetFree.of_bodySF (plainFor_of_name pn_2) hisR ?_
  intro p e s m args below meth c s₁ Bd hml0 hP hK
  obtain ⟨rfl, hZ, hh⟩ := hP
  have hx := Bd.exec
  have hby := Bd.bytes
  have hml : c.maxLocals = 6 := hml0
  have hown : s.vm.findClass "com/example/rigorous_bytecode/rigorousbytecode/dex/ArrayDataPayload" = some m.cls := findClass_of_methodNamed Bd.named
  have hnm := (name_of_methodNamed Bd.named Bd.method).1
  have X0 : Stand p l e ({ frames := 0, cells := 0, slots := 0, locals := 0 } : Room) s m #[(.ref a1), (.int p1)] below meth c s₁ [] 0 0 := Stand.of_body Bd
  have e0 : s₁.heap = h0 := by rw [← hh, Bd.state]; rfl
  have N0 := Fr.nil n0
  have pre0 : ∀ t, Steps p.tables e below (s₁.setTop (mkF m 0 #[.val (.ref a1), .val (.int p1), .unset, .unset, .unset, .unset] [])) t → Steps p.tables e below (s₁.setTop (entryFrame m #[(.ref a1), (.int p1)] 6)) t := fun t k => castTop (ef_rme8 m a1 p1) k
  have R0 : ∀ t, Steps p.tables e below (s₁.setTop (mkF m 0 #[.val (.ref a1), .val (.int p1), .unset, .unset, .unset, .unset] [])) t → Steps p.tables e below (s₁.setTop (mkF m 0 #[.val (.ref a1), .val (.int p1), .unset, .unset, .unset, .unset] [])) t := fun _ k => k
  have R205 : ∀ t, Steps p.tables e below (s₁.setTop (mkF m 2 #[.val (.ref a1), .val (.int p1), .unset, .unset, .unset, .unset] [(.ref a1), (.int p1)])) t → Steps p.tables e below (s₁.setTop (mkF m 0 #[.val (.ref a1), .val (.int p1), .unset, .unset, .unset, .unset] [])) t := by
    intro t k
    refine R0 t ?_
    refine XS.iloadN X0.here hx rfl (hb hby d5_0) rfl ?_
    refine XS.aloadN X0.here hx rfl (hb hby d5_1) rfl rfl ?_
    exact k
  obtain ⟨T206, X206, e206, st206⟩ := getF X0 hx hZ hown (host := "") (Or.inl (hw _ (List.mem_of_getElem? (i := 22) rfl))) Via.refl e0 F_01 (g := (mkF m 2 #[.val (.ref a1), .val (.int p1), .unset, .unset, .unset, .unset] [(.ref a1), (.int p1)])) rfl rfl (hb hby d5_2)
  have R207 : ∀ t, Steps p.tables e below (T206.setTop (mkF m 5 #[.val (.ref a1), .val (.int p1), .unset, .unset, .unset, .unset] [(.int (8 : Int32)), (.int p1)])) t → Steps p.tables e below (s₁.setTop (mkF m 0 #[.val (.ref a1), .val (.int p1), .unset, .unset, .unset, .unset] [])) t := fun t k => R205 t (st206 _ k)
  have R208 : ∀ t, Steps p.tables e below (T206.setTop (mkF m 10 #[.val (.ref a1), .val (.int p1), .val (.int (p1 * (8 : Int32))), .val (.long (0 : Int64)), .second, .unset] [(.ref a1)])) t → Steps p.tables e below (s₁.setTop (mkF m 0 #[.val (.ref a1), .val (.int p1), .unset, .unset, .unset, .unset] [])) t := by
    intro t k
    refine R207 t ?_
    refine XS.imul X206.here hx rfl (hb hby d5_5) rfl ?_
    refine XS.istoreN X206.here hx rfl (hb hby d5_6) rfl (l' := #[.val (.ref a1), .val (.int p1), .val (.int (p1 * (8 : Int32))), .unset, .unset, .unset]) rfl ?_
    refine XS.lconst X206.here hx rfl (hb hby d5_7) ?_
    refine XS.lstoreN X206.here hx rfl (hb hby d5_8) rfl (l' := #[.val (.ref a1), .val (.int p1), .val (.int (p1 * (8 : Int32))), .val (.long (0 : Int64)), .second, .unset]) rfl ?_
    refine XS.aloadN X206.here hx rfl (hb hby d5_9) rfl rfl ?_
    exact k
  obtain ⟨T209, X209, e209, st209⟩ := getF X206 hx hZ hown (host := "") (Or.inl (hw _ (List.mem_of_getElem? (i := 22) rfl))) Via.refl e206 F_01 (g := (mkF m 10 #[.val (.ref a1), .val (.int p1), .val (.int (p1 * (8 : Int32))), .val (.long (0 : Int64)), .second, .unset] [(.ref a1)])) rfl rfl (hb hby d5_10)
  have R210 : ∀ t, Steps p.tables e below (T209.setTop (mkF m 13 #[.val (.ref a1), .val (.int p1), .val (.int (p1 * (8 : Int32))), .val (.long (0 : Int64)), .second, .unset] [(.int (8 : Int32))])) t → Steps p.tables e below (s₁.setTop (mkF m 0 #[.val (.ref a1), .val (.int p1), .unset, .unset, .unset, .unset] [])) t := fun t k => R208 t (st209 _ k)
  have R211 : ∀ t, Steps p.tables e below (T209.setTop (mkF m 15 #[.val (.ref a1), .val (.int p1), .val (.int (p1 * (8 : Int32))), .val (.long (0 : Int64)), .second, .unset] [(.int ((8 : Int32) - (1 : Int32)))])) t → Steps p.tables e below (s₁.setTop (mkF m 0 #[.val (.ref a1), .val (.int p1), .unset, .unset, .unset, .unset] [])) t := by
    intro t k
    refine R210 t ?_
    refine XS.iconst X209.here hx rfl (hb hby d5_13) ?_
    refine XS.isub X209.here hx rfl (hb hby d5_14) rfl ?_
    exact k
  have R212 : ∀ t, Steps p.tables e below (T209.setTop (mkF m 17 #[.val (.ref a1), .val (.int p1), .val (.int (p1 * (8 : Int32))), .val (.long (0 : Int64)), .second, .val (.int (7 : Int32))] [])) t → Steps p.tables e below (s₁.setTop (mkF m 0 #[.val (.ref a1), .val (.int p1), .unset, .unset, .unset, .unset] [])) t := by
    intro t k
    refine R211 t ?_
    refine XS.istore X209.here hx rfl (hb hby d5_15) rfl (l' := #[.val (.ref a1), .val (.int p1), .val (.int (p1 * (8 : Int32))), .val (.long (0 : Int64)), .second, .val (.int (7 : Int32))]) rfl ?_
    exact k
  have R213 : ∀ t, Steps p.tables e below (T209.setTop (mkF m 19 #[.val (.ref a1), .val (.int p1), .val (.int (p1 * (8 : Int32))), .val (.long (0 : Int64)), .second, .val (.int (7 : Int32))] [(.int (7 : Int32))])) t → Steps p.tables e below (s₁.setTop (mkF m 0 #[.val (.ref a1), .val (.int p1), .unset, .unset, .unset, .unset] [])) t := by
    intro t k
    refine R212 t ?_
    refine XS.iload X209.here hx rfl (hb hby d5_17) rfl ?_
    exact k
  have R214 : ∀ t, Steps p.tables e below (T209.setTop (mkF m 22 #[.val (.ref a1), .val (.int p1), .val (.int (p1 * (8 : Int32))), .val (.long (0 : Int64)), .second, .val (.int (7 : Int32))] [])) t → Steps p.tables e below (s₁.setTop (mkF m 0 #[.val (.ref a1), .val (.int p1), .unset, .unset, .unset, .unset] [])) t := by
    intro t k
    refine R213 t ?_
    refine XS.ifNo X209.here hx rfl (hb hby d5_19) rfl ((if0 _ _).trans (flt (by decide)).1) ?_
    exact k
  have R215 : ∀ t, Steps p.tables e below (T209.setTop (mkF m 27 #[.val (.ref a1), .val (.int p1), .val (.int (p1 * (8 : Int32))), .val (.long (0 : Int64)), .second, .val (.int (7 : Int32))] [(.ref a1), (.long (((0 : Int64) <<< ((8 : Int32) &&& 0x3f).toInt64)))])) t → Steps p.tables e below (s₁.setTop (mkF m 0 #[.val (.ref a1), .val (.int p1), .unset, .unset, .unset, .unset] [])) t := by
    intro t k
    refine R214 t ?_
    refine XS.lloadN X209.here hx rfl (hb hby d5_22) rfl ?_
    refine XS.bipush X209.here hx rfl (hb hby d5_23) ?_
    refine XS.lshl X209.here hx rfl (hb hby d5_25) rfl ?_
    refine XS.aloadN X209.here hx rfl (hb hby d5_26) rfl rfl ?_
    exact k
  obtain ⟨T216, X216, e216, st216⟩ := getF X209 hx hZ hown (host := "") (Or.inl (hw _ (List.mem_of_getElem? (i := 24) rfl))) Via.refl e209 F_02 (g := (mkF m 27 #[.val (.ref a1), .val (.int p1), .val (.int (p1 * (8 : Int32))), .val (.long (0 : Int64)), .second, .val (.int (7 : Int32))] [(.ref a1), (.long (((0 : Int64) <<< ((8 : Int32) &&& 0x3f).toInt64)))])) rfl rfl (hb hby d5_27)
  have R217 : ∀ t, Steps p.tables e below (T216.setTop (mkF m 30 #[.val (.ref a1), .val (.int p1), .val (.int (p1 * (8 : Int32))), .val (.long (0 : Int64)), .second, .val (.int (7 : Int32))] [(.ref ta), (.long (((0 : Int64) <<< ((8 : Int32) &&& 0x3f).toInt64)))])) t → Steps p.tables e below (s₁.setTop (mkF m 0 #[.val (.ref a1), .val (.int p1), .unset, .unset, .unset, .unset] [])) t := fun t k => R215 t (st216 _ k)
  have R218 : ∀ t, Steps p.tables e below (T216.setTop (mkF m 34 #[.val (.ref a1), .val (.int p1), .val (.int (p1 * (8 : Int32))), .val (.long (0 : Int64)), .second, .val (.int (7 : Int32))] [(.int ((p1 * (8 : Int32)) + (7 : Int32))), (.ref ta), (.long (((0 : Int64) <<< ((8 : Int32) &&& 0x3f).toInt64)))])) t → Steps p.tables e below (s₁.setTop (mkF m 0 #[.val (.ref a1), .val (.int p1), .unset, .unset, .unset, .unset] [])) t := by
    intro t k
    refine R217 t ?_
    refine XS.iloadN X216.here hx rfl (hb hby d5_30) rfl ?_
    refine XS.iload X216.here hx rfl (hb hby d5_31) rfl ?_
    refine XS.iadd X216.here hx rfl (hb hby d5_33) rfl ?_
    exact k
  obtain ⟨cl219, Ar219, q219, Sz219, Nn219, Hh219, G219⟩ := id V_0
  have hin219 : ¬ (((p1 * (8 : Int32)) + (7 : Int32)) < 0 ∨ cl219.slots.size ≤ (((p1 * (8 : Int32)) + (7 : Int32))).toNatClampNeg) := inb_of Sz219 (hg 7 (by decide)).1
  have R220 : ∀ t, Steps p.tables e below (T216.setTop (mkF m 35 #[.val (.ref a1), .val (.int p1), .val (.int (p1 * (8 : Int32))), .val (.long (0 : Int64)), .second, .val (.int (7 : Int32))] [(.int (g 7)), (.long (((0 : Int64) <<< ((8 : Int32) &&& 0x3f).toInt64)))])) t → Steps p.tables e below (s₁.setTop (mkF m 0 #[.val (.ref a1), .val (.int p1), .unset, .unset, .unset, .unset] [])) t := by
    intro t k
    refine R218 t ?_
    refine X216.baloadBytes hx (j := ((p1 * (8 : Int32)) + (7 : Int32))) (v := (.int (g 7))) (by rw [e216]; exact Ar219.1) (State.isArrayOf_alike hZ.alike Ar219.2.1) Ar219.2.2 hin219 (Hh219.at hin219 (hg 7 (by decide)).2) (g := (mkF m 34 #[.val (.ref a1), .val (.int p1), .val (.int (p1 * (8 : Int32))), .val (.long (0 : Int64)), .second, .val (.int (7 : Int32))] [(.int ((p1 * (8 : Int32)) + (7 : Int32))), (.ref ta), (.long (((0 : Int64) <<< ((8 : Int32) &&& 0x3f).toInt64)))])) rfl rfl (hb hby d5_34) _ ?_
    exact k
  have R221 : ∀ t, Steps p.tables e below (T216.setTop (mkF m 41 #[.val (.ref a1), .val (.int p1), .val (.int (p1 * (8 : Int32))), .val (.long (0 : Int64)), .second, .val (.int (7 : Int32))] [(.long ((((0 : Int64) <<< ((8 : Int32) &&& 0x3f).toInt64)) ||| ((((g 7) &&& (255 : Int32))).toInt64)))])) t → Steps p.tables e below (s₁.setTop (mkF m 0 #[.val (.ref a1), .val (.int p1), .unset, .unset, .unset, .unset] [])) t := by
    intro t k
    refine R220 t ?_
    refine XS.sipush X216.here hx rfl (hb hby d5_35) ?_
    refine XS.iand X216.here hx rfl (hb hby d5_38) rfl ?_
    refine XS.i2l X216.here hx rfl (hb hby d5_39) rfl ?_
    refine XS.lor X216.here hx rfl (hb hby d5_40) rfl ?_
    exact k
  have R222 : ∀ t, Steps p.tables e below (T216.setTop (mkF m 42 #[.val (.ref a1), .val (.int p1), .val (.int (p1 * (8 : Int32))), .val (.long (own_acc g 8 1)), .second, .val (.int (7 : Int32))] [])) t → Steps p.tables e below (s₁.setTop (mkF m 0 #[.val (.ref a1), .val (.int p1), .unset, .unset, .unset, .unset] [])) t := by
    intro t k
    refine R221 t ?_
    refine XS.lstoreN X216.here hx rfl (hb hby d5_41) rfl (l' := #[.val (.ref a1), .val (.int p1), .val (.int (p1 * (8 : Int32))), .val (.long (own_acc g 8 1)), .second, .val (.int (7 : Int32))]) rfl ?_
    exact k
  have R223 : ∀ t, Steps p.tables e below (T216.setTop (mkF m 45 #[.val (.ref a1), .val (.int p1), .val (.int (p1 * (8 : Int32))), .val (.long (own_acc g 8 1)), .second, .val (.int ((7 : Int32) + (-1 : Int32)))] [])) t → Steps p.tables e below (s₁.setTop (mkF m 0 #[.val (.ref a1), .val (.int p1), .unset, .unset, .unset, .unset] [])) t := by
    intro t k
    refine R222 t ?_
    refine XS.iinc X216.here hx rfl (hb hby d5_42) rfl (l' := #[.val (.ref a1), .val (.int p1), .val (.int (p1 * (8 : Int32))), .val (.long (own_acc g 8 1)), .second, .val (.int ((7 : Int32) + (-1 : Int32)))]) rfl ?_
    exact k
  have R224 : ∀ t, Steps p.tables e below (T216.setTop (mkF m 17 #[.val (.ref a1), .val (.int p1), .val (.int (p1 * (8 : Int32))), .val (.long (own_acc g 8 1)), .second, .val (.int (6 : Int32))] [])) t → Steps p.tables e below (s₁.setTop (mkF m 0 #[.val (.ref a1), .val (.int p1), .unset, .unset, .unset, .unset] [])) t := by
    intro t k
    refine R223 t ?_
    refine XS.goto X216.here hx rfl (pc0 := 45) (pc' := 17) rfl (hb hby d5_45) (by decide) (by decide) ?_
    exact k
  have R225 : ∀ t, Steps p.tables e below (T216.setTop (mkF m 19 #[.val (.ref a1), .val (.int p1), .val (.int (p1 * (8 : Int32))), .val (.long (own_acc g 8 1)), .second, .val (.int (6 : Int32))] [(.int (6 : Int32))])) t → Steps p.tables e below (s₁.setTop (mkF m 0 #[.val (.ref a1), .val (.int p1), .unset, .unset, .unset, .unset] [])) t := by
    intro t k
    refine R224 t ?_
    refine XS.iload X216.here hx rfl (hb hby d5_17) rfl ?_
    exact k
  have R226 : ∀ t, Steps p.tables e below (T216.setTop (mkF m 22 #[.val (.ref a1), .val (.int p1), .val (.int (p1 * (8 : Int32))), .val (.long (own_acc g 8 1)), .second, .val (.int (6 : Int32))] [])) t → Steps p.tables e below (s₁.setTop (mkF m 0 #[.val (.ref a1), .val (.int p1), .unset, .unset, .unset, .unset] [])) t := by
    intro t k
    refine R225 t ?_
    refine XS.ifNo X216.here hx rfl (hb hby d5_19) rfl ((if0 _ _).trans (flt (by decide)).1) ?_
    exact k
  have R227 : ∀ t, Steps p.tables e below (T216.setTop (mkF m 27 #[.val (.ref a1), .val (.int p1), .val (.int (p1 * (8 : Int32))), .val (.long (own_acc g 8 1)), .second, .val (.int (6 : Int32))] [(.ref a1), (.long (((own_acc g 8 1) <<< ((8 : Int32) &&& 0x3f).toInt64)))])) t → Steps p.tables e below (s₁.setTop (mkF m 0 #[.val (.ref a1), .val (.int p1), .unset, .unset, .unset, .unset] [])) t := by
    intro t k
    refine R226 t ?_
    refine XS.lloadN X216.here hx rfl (hb hby d5_22) rfl ?_
    refine XS.bipush X216.here hx rfl (hb hby d5_23) ?_
    refine XS.lshl X216.here hx rfl (hb hby d5_25) rfl ?_
    refine XS.aloadN X216.here hx rfl (hb hby d5_26) rfl rfl ?_
    exact k
  obtain ⟨T228, X228, e228, st228⟩ := getF X216 hx hZ hown (host := "") (Or.inl (hw _ (List.mem_of_getElem? (i := 24) rfl))) Via.refl e216 F_02 (g := (mkF m 27 #[.val (.ref a1), .val (.int p1), .val (.int (p1 * (8 : Int32))), .val (.long (own_acc g 8 1)), .second, .val (.int (6 : Int32))] [(.ref a1), (.long (((own_acc g 8 1) <<< ((8 : Int32) &&& 0x3f).toInt64)))])) rfl rfl (hb hby d5_27)
  have R229 : ∀ t, Steps p.tables e below (T228.setTop (mkF m 30 #[.val (.ref a1), .val (.int p1), .val (.int (p1 * (8 : Int32))), .val (.long (own_acc g 8 1)), .second, .val (.int (6 : Int32))] [(.ref ta), (.long (((own_acc g 8 1) <<< ((8 : Int32) &&& 0x3f).toInt64)))])) t → Steps p.tables e below (s₁.setTop (mkF m 0 #[.val (.ref a1), .val (.int p1), .unset, .unset, .unset, .unset] [])) t := fun t k => R227 t (st228 _ k)
  have R230 : ∀ t, Steps p.tables e below (T228.setTop (mkF m 34 #[.val (.ref a1), .val (.int p1), .val (.int (p1 * (8 : Int32))), .val (.long (own_acc g 8 1)), .second, .val (.int (6 : Int32))] [(.int ((p1 * (8 : Int32)) + (6 : Int32))), (.ref ta), (.long (((own_acc g 8 1) <<< ((8 : Int32) &&& 0x3f).toInt64)))])) t → Steps p.tables e below (s₁.setTop (mkF m 0 #[.val (.ref a1), .val (.int p1), .unset, .unset, .unset, .unset] [])) t := by
    intro t k
    refine R229 t ?_
    refine XS.iloadN X228.here hx rfl (hb hby d5_30) rfl ?_
    refine XS.iload X228.here hx rfl (hb hby d5_31) rfl ?_
    refine XS.iadd X228.here hx rfl (hb hby d5_33) rfl ?_
    exact k
  obtain ⟨cl231, Ar231, q231, Sz231, Nn231, Hh231, G231⟩ := id V_0
  have hin231 : ¬ (((p1 * (8 : Int32)) + (6 : Int32)) < 0 ∨ cl231.slots.size ≤ (((p1 * (8 : Int32)) + (6 : Int32))).toNatClampNeg) := inb_of Sz231 (hg 6 (by decide)).1
  have R232 : ∀ t, Steps p.tables e below (T228.setTop (mkF m 35 #[.val (.ref a1), .val (.int p1), .val (.int (p1 * (8 : Int32))), .val (.long (own_acc g 8 1)), .second, .val (.int (6 : Int32))] [(.int (g 6)), (.long (((own_acc g 8 1) <<< ((8 : Int32) &&& 0x3f).toInt64)))])) t → Steps p.tables e below (s₁.setTop (mkF m 0 #[.val (.ref a1), .val (.int p1), .unset, .unset, .unset, .unset] [])) t := by
    intro t k
    refine R230 t ?_
    refine X228.baloadBytes hx (j := ((p1 * (8 : Int32)) + (6 : Int32))) (v := (.int (g 6))) (by rw [e228]; exact Ar231.1) (State.isArrayOf_alike hZ.alike Ar231.2.1) Ar231.2.2 hin231 (Hh231.at hin231 (hg 6 (by decide)).2) (g := (mkF m 34 #[.val (.ref a1), .val (.int p1), .val (.int (p1 * (8 : Int32))), .val (.long (own_acc g 8 1)), .second, .val (.int (6 : Int32))] [(.int ((p1 * (8 : Int32)) + (6 : Int32))), (.ref ta), (.long (((own_acc g 8 1) <<< ((8 : Int32) &&& 0x3f).toInt64)))])) rfl rfl (hb hby d5_34) _ ?_
    exact k
  have R233 : ∀ t, Steps p.tables e below (T228.setTop (mkF m 41 #[.val (.ref a1), .val (.int p1), .val (.int (p1 * (8 : Int32))), .val (.long (own_acc g 8 1)), .second, .val (.int (6 : Int32))] [(.long ((((own_acc g 8 1) <<< ((8 : Int32) &&& 0x3f).toInt64)) ||| ((((g 6) &&& (255 : Int32))).toInt64)))])) t → Steps p.tables e below (s₁.setTop (mkF m 0 #[.val (.ref a1), .val (.int p1), .unset, .unset, .unset, .unset] [])) t := by
    intro t k
    refine R232 t ?_
    refine XS.sipush X228.here hx rfl (hb hby d5_35) ?_
    refine XS.iand X228.here hx rfl (hb hby d5_38) rfl ?_
    refine XS.i2l X228.here hx rfl (hb hby d5_39) rfl ?_
    refine XS.lor X228.here hx rfl (hb hby d5_40) rfl ?_
    exact k
  have R234 : ∀ t, Steps p.tables e below (T228.setTop (mkF m 42 #[.val (.ref a1), .val (.int p1), .val (.int (p1 * (8 : Int32))), .val (.long (own_acc g 8 2)), .second, .val (.int (6 : Int32))] [])) t → Steps p.tables e below (s₁.setTop (mkF m 0 #[.val (.ref a1), .val (.int p1), .unset, .unset, .unset, .unset] [])) t := by
    intro t k
    refine R233 t ?_
    refine XS.lstoreN X228.here hx rfl (hb hby d5_41) rfl (l' := #[.val (.ref a1), .val (.int p1), .val (.int (p1 * (8 : Int32))), .val (.long (own_acc g 8 2)), .second, .val (.int (6 : Int32))]) rfl ?_
    exact k
  have R235 : ∀ t, Steps p.tables e below (T228.setTop (mkF m 45 #[.val (.ref a1), .val (.int p1), .val (.int (p1 * (8 : Int32))), .val (.long (own_acc g 8 2)), .second, .val (.int ((6 : Int32) + (-1 : Int32)))] [])) t → Steps p.tables e below (s₁.setTop (mkF m 0 #[.val (.ref a1), .val (.int p1), .unset, .unset, .unset, .unset] [])) t := by
    intro t k
    refine R234 t ?_
    refine XS.iinc X228.here hx rfl (hb hby d5_42) rfl (l' := #[.val (.ref a1), .val (.int p1), .val (.int (p1 * (8 : Int32))), .val (.long (own_acc g 8 2)), .second, .val (.int ((6 : Int32) + (-1 : Int32)))]) rfl ?_
    exact k
  have R236 : ∀ t, Steps p.tables e below (T228.setTop (mkF m 17 #[.val (.ref a1), .val (.int p1), .val (.int (p1 * (8 : Int32))), .val (.long (own_acc g 8 2)), .second, .val (.int (5 : Int32))] [])) t → Steps p.tables e below (s₁.setTop (mkF m 0 #[.val (.ref a1), .val (.int p1), .unset, .unset, .unset, .unset] [])) t := by
    intro t k
    refine R235 t ?_
    refine XS.goto X228.here hx rfl (pc0 := 45) (pc' := 17) rfl (hb hby d5_45) (by decide) (by decide) ?_
    exact k
  have R237 : ∀ t, Steps p.tables e below (T228.setTop (mkF m 19 #[.val (.ref a1), .val (.int p1), .val (.int (p1 * (8 : Int32))), .val (.long (own_acc g 8 2)), .second, .val (.int (5 : Int32))] [(.int (5 : Int32))])) t → Steps p.tables e below (s₁.setTop (mkF m 0 #[.val (.ref a1), .val (.int p1), .unset, .unset, .unset, .unset] [])) t := by
    intro t k
    refine R236 t ?_
    refine XS.iload X228.here hx rfl (hb hby d5_17) rfl ?_
    exact k
  have R238 : ∀ t, Steps p.tables e below (T228.setTop (mkF m 22 #[.val (.ref a1), .val (.int p1), .val (.int (p1 * (8 : Int32))), .val (.long (own_acc g 8 2)), .second, .val (.int (5 : Int32))] [])) t → Steps p.tables e below (s₁.setTop (mkF m 0 #[.val (.ref a1), .val (.int p1), .unset, .unset, .unset, .unset] [])) t := by
    intro t k
    refine R237 t ?_
    refine XS.ifNo X228.here hx rfl (hb hby d5_19) rfl ((if0 _ _).trans (flt (by decide)).1) ?_
    exact k
  have R239 : ∀ t, Steps p.tables e below (T228.setTop (mkF m 27 #[.val (.ref a1), .val (.int p1), .val (.int (p1 * (8 : Int32))), .val (.long (own_acc g 8 2)), .second, .val (.int (5 : Int32))] [(.ref a1), (.long (((own_acc g 8 2) <<< ((8 : Int32) &&& 0x3f).toInt64)))])) t → Steps p.tables e below (s₁.setTop (mkF m 0 #[.val (.ref a1), .val (.int p1), .unset, .unset, .unset, .unset] [])) t := by
    intro t k
    refine R238 t ?_
    refine XS.lloadN X228.here hx rfl (hb hby d5_22) rfl ?_
    refine XS.bipush X228.here hx rfl (hb hby d5_23) ?_
    refine XS.lshl X228.here hx rfl (hb hby d5_25) rfl ?_
    refine XS.aloadN X228.here hx rfl (hb hby d5_26) rfl rfl ?_
    exact k
  obtain ⟨T240, X240, e240, st240⟩ := getF X228 hx hZ hown (host := "") (Or.inl (hw _ (List.mem_of_getElem? (i := 24) rfl))) Via.refl e228 F_02 (g := (mkF m 27 #[.val (.ref a1), .val (.int p1), .val (.int (p1 * (8 : Int32))), .val (.long (own_acc g 8 2)), .second, .val (.int (5 : Int32))] [(.ref a1), (.long (((own_acc g 8 2) <<< ((8 : Int32) &&& 0x3f).toInt64)))])) rfl rfl (hb hby d5_27)
  have R241 : ∀ t, Steps p.tables e below (T240.setTop (mkF m 30 #[.val (.ref a1), .val (.int p1), .val (.int (p1 * (8 : Int32))), .val (.long (own_acc g 8 2)), .second, .val (.int (5 : Int32))] [(.ref ta), (.long (((own_acc g 8 2) <<< ((8 : Int32) &&& 0x3f).toInt64)))])) t → Steps p.tables e below (s₁.setTop (mkF m 0 #[.val (.ref a1), .val (.int p1), .unset, .unset, .unset, .unset] [])) t := fun t k => R239 t (st240 _ k)
  have R242 : ∀ t, Steps p.tables e below (T240.setTop (mkF m 34 #[.val (.ref a1), .val (.int p1), .val (.int (p1 * (8 : Int32))), .val (.long (own_acc g 8 2)), .second, .val (.int (5 : Int32))] [(.int ((p1 * (8 : Int32)) + (5 : Int32))), (.ref ta), (.long (((own_acc g 8 2) <<< ((8 : Int32) &&& 0x3f).toInt64)))])) t → Steps p.tables e below (s₁.setTop (mkF m 0 #[.val (.ref a1), .val (.int p1), .unset, .unset, .unset, .unset] [])) t := by
    intro t k
    refine R241 t ?_
    refine XS.iloadN X240.here hx rfl (hb hby d5_30) rfl ?_
    refine XS.iload X240.here hx rfl (hb hby d5_31) rfl ?_
    refine XS.iadd X240.here hx rfl (hb hby d5_33) rfl ?_
    exact k
  obtain ⟨cl243, Ar243, q243, Sz243, Nn243, Hh243, G243⟩ := id V_0
  have hin243 : ¬ (((p1 * (8 : Int32)) + (5 : Int32)) < 0 ∨ cl243.slots.size ≤ (((p1 * (8 : Int32)) + (5 : Int32))).toNatClampNeg) := inb_of Sz243 (hg 5 (by decide)).1
  have R244 : ∀ t, Steps p.tables e below (T240.setTop (mkF m 35 #[.val (.ref a1), .val (.int p1), .val (.int (p1 * (8 : Int32))), .val (.long (own_acc g 8 2)), .second, .val (.int (5 : Int32))] [(.int (g 5)), (.long (((own_acc g 8 2) <<< ((8 : Int32) &&& 0x3f).toInt64)))])) t → Steps p.tables e below (s₁.setTop (mkF m 0 #[.val (.ref a1), .val (.int p1), .unset, .unset, .unset, .unset] [])) t := by
    intro t k
    refine R242 t ?_
    refine X240.baloadBytes hx (j := ((p1 * (8 : Int32)) + (5 : Int32))) (v := (.int (g 5))) (by rw [e240]; exact Ar243.1) (State.isArrayOf_alike hZ.alike Ar243.2.1) Ar243.2.2 hin243 (Hh243.at hin243 (hg 5 (by decide)).2) (g := (mkF m 34 #[.val (.ref a1), .val (.int p1), .val (.int (p1 * (8 : Int32))), .val (.long (own_acc g 8 2)), .second, .val (.int (5 : Int32))] [(.int ((p1 * (8 : Int32)) + (5 : Int32))), (.ref ta), (.long (((own_acc g 8 2) <<< ((8 : Int32) &&& 0x3f).toInt64)))])) rfl rfl (hb hby d5_34) _ ?_
    exact k
  have R245 : ∀ t, Steps p.tables e below (T240.setTop (mkF m 41 #[.val (.ref a1), .val (.int p1), .val (.int (p1 * (8 : Int32))), .val (.long (own_acc g 8 2)), .second, .val (.int (5 : Int32))] [(.long ((((own_acc g 8 2) <<< ((8 : Int32) &&& 0x3f).toInt64)) ||| ((((g 5) &&& (255 : Int32))).toInt64)))])) t → Steps p.tables e below (s₁.setTop (mkF m 0 #[.val (.ref a1), .val (.int p1), .unset, .unset, .unset, .unset] [])) t := by
    intro t k
    refine R244 t ?_
    refine XS.sipush X240.here hx rfl (hb hby d5_35) ?_
    refine XS.iand X240.here hx rfl (hb hby d5_38) rfl ?_
    refine XS.i2l X240.here hx rfl (hb hby d5_39) rfl ?_
    refine XS.lor X240.here hx rfl (hb hby d5_40) rfl ?_
    exact k
  have R246 : ∀ t, Steps p.tables e below (T240.setTop (mkF m 42 #[.val (.ref a1), .val (.int p1), .val (.int (p1 * (8 : Int32))), .val (.long (own_acc g 8 3)), .second, .val (.int (5 : Int32))] [])) t → Steps p.tables e below (s₁.setTop (mkF m 0 #[.val (.ref a1), .val (.int p1), .unset, .unset, .unset, .unset] [])) t := by
    intro t k
    refine R245 t ?_
    refine XS.lstoreN X240.here hx rfl (hb hby d5_41) rfl (l' := #[.val (.ref a1), .val (.int p1), .val (.int (p1 * (8 : Int32))), .val (.long (own_acc g 8 3)), .second, .val (.int (5 : Int32))]) rfl ?_
    exact k
  have R247 : ∀ t, Steps p.tables e below (T240.setTop (mkF m 45 #[.val (.ref a1), .val (.int p1), .val (.int (p1 * (8 : Int32))), .val (.long (own_acc g 8 3)), .second, .val (.int ((5 : Int32) + (-1 : Int32)))] [])) t → Steps p.tables e below (s₁.setTop (mkF m 0 #[.val (.ref a1), .val (.int p1), .unset, .unset, .unset, .unset] [])) t := by
    intro t k
    refine R246 t ?_
    refine XS.iinc X240.here hx rfl (hb hby d5_42) rfl (l' := #[.val (.ref a1), .val (.int p1), .val (.int (p1 * (8 : Int32))), .val (.long (own_acc g 8 3)), .second, .val (.int ((5 : Int32) + (-1 : Int32)))]) rfl ?_
    exact k
  have R248 : ∀ t, Steps p.tables e below (T240.setTop (mkF m 17 #[.val (.ref a1), .val (.int p1), .val (.int (p1 * (8 : Int32))), .val (.long (own_acc g 8 3)), .second, .val (.int (4 : Int32))] [])) t → Steps p.tables e below (s₁.setTop (mkF m 0 #[.val (.ref a1), .val (.int p1), .unset, .unset, .unset, .unset] [])) t := by
    intro t k
    refine R247 t ?_
    refine XS.goto X240.here hx rfl (pc0 := 45) (pc' := 17) rfl (hb hby d5_45) (by decide) (by decide) ?_
    exact k
  have R249 : ∀ t, Steps p.tables e below (T240.setTop (mkF m 19 #[.val (.ref a1), .val (.int p1), .val (.int (p1 * (8 : Int32))), .val (.long (own_acc g 8 3)), .second, .val (.int (4 : Int32))] [(.int (4 : Int32))])) t → Steps p.tables e below (s₁.setTop (mkF m 0 #[.val (.ref a1), .val (.int p1), .unset, .unset, .unset, .unset] [])) t := by
    intro t k
    refine R248 t ?_
    refine XS.iload X240.here hx rfl (hb hby d5_17) rfl ?_
    exact k
  have R250 : ∀ t, Steps p.tables e below (T240.setTop (mkF m 22 #[.val (.ref a1), .val (.int p1), .val (.int (p1 * (8 : Int32))), .val (.long (own_acc g 8 3)), .second, .val (.int (4 : Int32))] [])) t → Steps p.tables e below (s₁.setTop (mkF m 0 #[.val (.ref a1), .val (.int p1), .unset, .unset, .unset, .unset] [])) t := by
    intro t k
    refine R249 t ?_
    refine XS.ifNo X240.here hx rfl (hb hby d5_19) rfl ((if0 _ _).trans (flt (by decide)).1) ?_
    exact k
  have R251 : ∀ t, Steps p.tables e below (T240.setTop (mkF m 27 #[.val (.ref a1), .val (.int p1), .val (.int (p1 * (8 : Int32))), .val (.long (own_acc g 8 3)), .second, .val (.int (4 : Int32))] [(.ref a1), (.long (((own_acc g 8 3) <<< ((8 : Int32) &&& 0x3f).toInt64)))])) t → Steps p.tables e below (s₁.setTop (mkF m 0 #[.val (.ref a1), .val (.int p1), .unset, .unset, .unset, .unset] [])) t := by
    intro t k
    refine R250 t ?_
    refine XS.lloadN X240.here hx rfl (hb hby d5_22) rfl ?_
    refine XS.bipush X240.here hx rfl (hb hby d5_23) ?_
    refine XS.lshl X240.here hx rfl (hb hby d5_25) rfl ?_
    refine XS.aloadN X240.here hx rfl (hb hby d5_26) rfl rfl ?_
    exact k
  obtain ⟨T252, X252, e252, st252⟩ := getF X240 hx hZ hown (host := "") (Or.inl (hw _ (List.mem_of_getElem? (i := 24) rfl))) Via.refl e240 F_02 (g := (mkF m 27 #[.val (.ref a1), .val (.int p1), .val (.int (p1 * (8 : Int32))), .val (.long (own_acc g 8 3)), .second, .val (.int (4 : Int32))] [(.ref a1), (.long (((own_acc g 8 3) <<< ((8 : Int32) &&& 0x3f).toInt64)))])) rfl rfl (hb hby d5_27)
  have R253 : ∀ t, Steps p.tables e below (T252.setTop (mkF m 30 #[.val (.ref a1), .val (.int p1), .val (.int (p1 * (8 : Int32))), .val (.long (own_acc g 8 3)), .second, .val (.int (4 : Int32))] [(.ref ta), (.long (((own_acc g 8 3) <<< ((8 : Int32) &&& 0x3f).toInt64)))])) t → Steps p.tables e below (s₁.setTop (mkF m 0 #[.val (.ref a1), .val (.int p1), .unset, .unset, .unset, .unset] [])) t := fun t k => R251 t (st252 _ k)
  have R254 : ∀ t, Steps p.tables e below (T252.setTop (mkF m 34 #[.val (.ref a1), .val (.int p1), .val (.int (p1 * (8 : Int32))), .val (.long (own_acc g 8 3)), .second, .val (.int (4 : Int32))] [(.int ((p1 * (8 : Int32)) + (4 : Int32))), (.ref ta), (.long (((own_acc g 8 3) <<< ((8 : Int32) &&& 0x3f).toInt64)))])) t → Steps p.tables e below (s₁.setTop (mkF m 0 #[.val (.ref a1), .val (.int p1), .unset, .unset, .unset, .unset] [])) t := by
    intro t k
    refine R253 t ?_
    refine XS.iloadN X252.here hx rfl (hb hby d5_30) rfl ?_
    refine XS.iload X252.here hx rfl (hb hby d5_31) rfl ?_
    refine XS.iadd X252.here hx rfl (hb hby d5_33) rfl ?_
    exact k
  obtain ⟨cl255, Ar255, q255, Sz255, Nn255, Hh255, G255⟩ := id V_0
  have hin255 : ¬ (((p1 * (8 : Int32)) + (4 : Int32)) < 0 ∨ cl255.slots.size ≤ (((p1 * (8 : Int32)) + (4 : Int32))).toNatClampNeg) := inb_of Sz255 (hg 4 (by decide)).1
  have R256 : ∀ t, Steps p.tables e below (T252.setTop (mkF m 35 #[.val (.ref a1), .val (.int p1), .val (.int (p1 * (8 : Int32))), .val (.long (own_acc g 8 3)), .second, .val (.int (4 : Int32))] [(.int (g 4)), (.long (((own_acc g 8 3) <<< ((8 : Int32) &&& 0x3f).toInt64)))])) t → Steps p.tables e below (s₁.setTop (mkF m 0 #[.val (.ref a1), .val (.int p1), .unset, .unset, .unset, .unset] [])) t := by
    intro t k
    refine R254 t ?_
    refine X252.baloadBytes hx (j := ((p1 * (8 : Int32)) + (4 : Int32))) (v := (.int (g 4))) (by rw [e252]; exact Ar255.1) (State.isArrayOf_alike hZ.alike Ar255.2.1) Ar255.2.2 hin255 (Hh255.at hin255 (hg 4 (by decide)).2) (g := (mkF m 34 #[.val (.ref a1), .val (.int p1), .val (.int (p1 * (8 : Int32))), .val (.long (own_acc g 8 3)), .second, .val (.int (4 : Int32))] [(.int ((p1 * (8 : Int32)) + (4 : Int32))), (.ref ta), (.long (((own_acc g 8 3) <<< ((8 : Int32) &&& 0x3f).toInt64)))])) rfl rfl (hb hby d5_34) _ ?_
    exact k
  have R257 : ∀ t, Steps p.tables e below (T252.setTop (mkF m 41 #[.val (.ref a1), .val (.int p1), .val (.int (p1 * (8 : Int32))), .val (.long (own_acc g 8 3)), .second, .val (.int (4 : Int32))] [(.long ((((own_acc g 8 3) <<< ((8 : Int32) &&& 0x3f).toInt64)) ||| ((((g 4) &&& (255 : Int32))).toInt64)))])) t → Steps p.tables e below (s₁.setTop (mkF m 0 #[.val (.ref a1), .val (.int p1), .unset, .unset, .unset, .unset] [])) t := by
    intro t k
    refine R256 t ?_
    refine XS.sipush X252.here hx rfl (hb hby d5_35) ?_
    refine XS.iand X252.here hx rfl (hb hby d5_38) rfl ?_
    refine XS.i2l X252.here hx rfl (hb hby d5_39) rfl ?_
    refine XS.lor X252.here hx rfl (hb hby d5_40) rfl ?_
    exact k
  have R258 : ∀ t, Steps p.tables e below (T252.setTop (mkF m 42 #[.val (.ref a1), .val (.int p1), .val (.int (p1 * (8 : Int32))), .val (.long (own_acc g 8 4)), .second, .val (.int (4 : Int32))] [])) t → Steps p.tables e below (s₁.setTop (mkF m 0 #[.val (.ref a1), .val (.int p1), .unset, .unset, .unset, .unset] [])) t := by
    intro t k
    refine R257 t ?_
    refine XS.lstoreN X252.here hx rfl (hb hby d5_41) rfl (l' := #[.val (.ref a1), .val (.int p1), .val (.int (p1 * (8 : Int32))), .val (.long (own_acc g 8 4)), .second, .val (.int (4 : Int32))]) rfl ?_
    exact k
  have R259 : ∀ t, Steps p.tables e below (T252.setTop (mkF m 45 #[.val (.ref a1), .val (.int p1), .val (.int (p1 * (8 : Int32))), .val (.long (own_acc g 8 4)), .second, .val (.int ((4 : Int32) + (-1 : Int32)))] [])) t → Steps p.tables e below (s₁.setTop (mkF m 0 #[.val (.ref a1), .val (.int p1), .unset, .unset, .unset, .unset] [])) t := by
    intro t k
    refine R258 t ?_
    refine XS.iinc X252.here hx rfl (hb hby d5_42) rfl (l' := #[.val (.ref a1), .val (.int p1), .val (.int (p1 * (8 : Int32))), .val (.long (own_acc g 8 4)), .second, .val (.int ((4 : Int32) + (-1 : Int32)))]) rfl ?_
    exact k
  have R260 : ∀ t, Steps p.tables e below (T252.setTop (mkF m 17 #[.val (.ref a1), .val (.int p1), .val (.int (p1 * (8 : Int32))), .val (.long (own_acc g 8 4)), .second, .val (.int (3 : Int32))] [])) t → Steps p.tables e below (s₁.setTop (mkF m 0 #[.val (.ref a1), .val (.int p1), .unset, .unset, .unset, .unset] [])) t := by
    intro t k
    refine R259 t ?_
    refine XS.goto X252.here hx rfl (pc0 := 45) (pc' := 17) rfl (hb hby d5_45) (by decide) (by decide) ?_
    exact k
  have R261 : ∀ t, Steps p.tables e below (T252.setTop (mkF m 19 #[.val (.ref a1), .val (.int p1), .val (.int (p1 * (8 : Int32))), .val (.long (own_acc g 8 4)), .second, .val (.int (3 : Int32))] [(.int (3 : Int32))])) t → Steps p.tables e below (s₁.setTop (mkF m 0 #[.val (.ref a1), .val (.int p1), .unset, .unset, .unset, .unset] [])) t := by
    intro t k
    refine R260 t ?_
    refine XS.iload X252.here hx rfl (hb hby d5_17) rfl ?_
    exact k
  have R262 : ∀ t, Steps p.tables e below (T252.setTop (mkF m 22 #[.val (.ref a1), .val (.int p1), .val (.int (p1 * (8 : Int32))), .val (.long (own_acc g 8 4)), .second, .val (.int (3 : Int32))] [])) t → Steps p.tables e below (s₁.setTop (mkF m 0 #[.val (.ref a1), .val (.int p1), .unset, .unset, .unset, .unset] [])) t := by
    intro t k
    refine R261 t ?_
    refine XS.ifNo X252.here hx rfl (hb hby d5_19) rfl ((if0 _ _).trans (flt (by decide)).1) ?_
    exact k
  have R263 : ∀ t, Steps p.tables e below (T252.setTop (mkF m 27 #[.val (.ref a1), .val (.int p1), .val (.int (p1 * (8 : Int32))), .val (.long (own_acc g 8 4)), .second, .val (.int (3 : Int32))] [(.ref a1), (.long (((own_acc g 8 4) <<< ((8 : Int32) &&& 0x3f).toInt64)))])) t → Steps p.tables e below (s₁.setTop (mkF m 0 #[.val (.ref a1), .val (.int p1), .unset, .unset, .unset, .unset] [])) t := by
    intro t k
    refine R262 t ?_
    refine XS.lloadN X252.here hx rfl (hb hby d5_22) rfl ?_
    refine XS.bipush X252.here hx rfl (hb hby d5_23) ?_
    refine XS.lshl X252.here hx rfl (hb hby d5_25) rfl ?_
    refine XS.aloadN X252.here hx rfl (hb hby d5_26) rfl rfl ?_
    exact k
  obtain ⟨T264, X264, e264, st264⟩ := getF X252 hx hZ hown (host := "") (Or.inl (hw _ (List.mem_of_getElem? (i := 24) rfl))) Via.refl e252 F_02 (g := (mkF m 27 #[.val (.ref a1), .val (.int p1), .val (.int (p1 * (8 : Int32))), .val (.long (own_acc g 8 4)), .second, .val (.int (3 : Int32))] [(.ref a1), (.long (((own_acc g 8 4) <<< ((8 : Int32) &&& 0x3f).toInt64)))])) rfl rfl (hb hby d5_27)
  have R265 : ∀ t, Steps p.tables e below (T264.setTop (mkF m 30 #[.val (.ref a1), .val (.int p1), .val (.int (p1 * (8 : Int32))), .val (.long (own_acc g 8 4)), .second, .val (.int (3 : Int32))] [(.ref ta), (.long (((own_acc g 8 4) <<< ((8 : Int32) &&& 0x3f).toInt64)))])) t → Steps p.tables e below (s₁.setTop (mkF m 0 #[.val (.ref a1), .val (.int p1), .unset, .unset, .unset, .unset] [])) t := fun t k => R263 t (st264 _ k)
  have R266 : ∀ t, Steps p.tables e below (T264.setTop (mkF m 34 #[.val (.ref a1), .val (.int p1), .val (.int (p1 * (8 : Int32))), .val (.long (own_acc g 8 4)), .second, .val (.int (3 : Int32))] [(.int ((p1 * (8 : Int32)) + (3 : Int32))), (.ref ta), (.long (((own_acc g 8 4) <<< ((8 : Int32) &&& 0x3f).toInt64)))])) t → Steps p.tables e below (s₁.setTop (mkF m 0 #[.val (.ref a1), .val (.int p1), .unset, .unset, .unset, .unset] [])) t := by
    intro t k
    refine R265 t ?_
    refine XS.iloadN X264.here hx rfl (hb hby d5_30) rfl ?_
    refine XS.iload X264.here hx rfl (hb hby d5_31) rfl ?_
    refine XS.iadd X264.here hx rfl (hb hby d5_33) rfl ?_
    exact k
  obtain ⟨cl267, Ar267, q267, Sz267, Nn267, Hh267, G267⟩ := id V_0
  have hin267 : ¬ (((p1 * (8 : Int32)) + (3 : Int32)) < 0 ∨ cl267.slots.size ≤ (((p1 * (8 : Int32)) + (3 : Int32))).toNatClampNeg) := inb_of Sz267 (hg 3 (by decide)).1
  have R268 : ∀ t, Steps p.tables e below (T264.setTop (mkF m 35 #[.val (.ref a1), .val (.int p1), .val (.int (p1 * (8 : Int32))), .val (.long (own_acc g 8 4)), .second, .val (.int (3 : Int32))] [(.int (g 3)), (.long (((own_acc g 8 4) <<< ((8 : Int32) &&& 0x3f).toInt64)))])) t → Steps p.tables e below (s₁.setTop (mkF m 0 #[.val (.ref a1), .val (.int p1), .unset, .unset, .unset, .unset] [])) t := by
    intro t k
    refine R266 t ?_
    refine X264.baloadBytes hx (j := ((p1 * (8 : Int32)) + (3 : Int32))) (v := (.int (g 3))) (by rw [e264]; exact Ar267.1) (State.isArrayOf_alike hZ.alike Ar267.2.1) Ar267.2.2 hin267 (Hh267.at hin267 (hg 3 (by decide)).2) (g := (mkF m 34 #[.val (.ref a1), .val (.int p1), .val (.int (p1 * (8 : Int32))), .val (.long (own_acc g 8 4)), .second, .val (.int (3 : Int32))] [(.int ((p1 * (8 : Int32)) + (3 : Int32))), (.ref ta), (.long (((own_acc g 8 4) <<< ((8 : Int32) &&& 0x3f).toInt64)))])) rfl rfl (hb hby d5_34) _ ?_
    exact k
  have R269 : ∀ t, Steps p.tables e below (T264.setTop (mkF m 41 #[.val (.ref a1), .val (.int p1), .val (.int (p1 * (8 : Int32))), .val (.long (own_acc g 8 4)), .second, .val (.int (3 : Int32))] [(.long ((((own_acc g 8 4) <<< ((8 : Int32) &&& 0x3f).toInt64)) ||| ((((g 3) &&& (255 : Int32))).toInt64)))])) t → Steps p.tables e below (s₁.setTop (mkF m 0 #[.val (.ref a1), .val (.int p1), .unset, .unset, .unset, .unset] [])) t := by
    intro t k
    refine R268 t ?_
    refine XS.sipush X264.here hx rfl (hb hby d5_35) ?_
    refine XS.iand X264.here hx rfl (hb hby d5_38) rfl ?_
    refine XS.i2l X264.here hx rfl (hb hby d5_39) rfl ?_
    refine XS.lor X264.here hx rfl (hb hby d5_40) rfl ?_
    exact k
  have R270 : ∀ t, Steps p.tables e below (T264.setTop (mkF m 42 #[.val (.ref a1), .val (.int p1), .val (.int (p1 * (8 : Int32))), .val (.long (own_acc g 8 5)), .second, .val (.int (3 : Int32))] [])) t → Steps p.tables e below (s₁.setTop (mkF m 0 #[.val (.ref a1), .val (.int p1), .unset, .unset, .unset, .unset] [])) t := by
    intro t k
    refine R269 t ?_
    refine XS.lstoreN X264.here hx rfl (hb hby d5_41) rfl (l' := #[.val (.ref a1), .val (.int p1), .val (.int (p1 * (8 : Int32))), .val (.long (own_acc g 8 5)), .second, .val (.int (3 : Int32))]) rfl ?_
    exact k
  have R271 : ∀ t, Steps p.tables e below (T264.setTop (mkF m 45 #[.val (.ref a1), .val (.int p1), .val (.int (p1 * (8 : Int32))), .val (.long (own_acc g 8 5)), .second, .val (.int ((3 : Int32) + (-1 : Int32)))] [])) t → Steps p.tables e below (s₁.setTop (mkF m 0 #[.val (.ref a1), .val (.int p1), .unset, .unset, .unset, .unset] [])) t := by
    intro t k
    refine R270 t ?_
    refine XS.iinc X264.here hx rfl (hb hby d5_42) rfl (l' := #[.val (.ref a1), .val (.int p1), .val (.int (p1 * (8 : Int32))), .val (.long (own_acc g 8 5)), .second, .val (.int ((3 : Int32) + (-1 : Int32)))]) rfl ?_
    exact k
  have R272 : ∀ t, Steps p.tables e below (T264.setTop (mkF m 17 #[.val (.ref a1), .val (.int p1), .val (.int (p1 * (8 : Int32))), .val (.long (own_acc g 8 5)), .second, .val (.int (2 : Int32))] [])) t → Steps p.tables e below (s₁.setTop (mkF m 0 #[.val (.ref a1), .val (.int p1), .unset, .unset, .unset, .unset] [])) t := by
    intro t k
    refine R271 t ?_
    refine XS.goto X264.here hx rfl (pc0 := 45) (pc' := 17) rfl (hb hby d5_45) (by decide) (by decide) ?_
    exact k
  have R273 : ∀ t, Steps p.tables e below (T264.setTop (mkF m 19 #[.val (.ref a1), .val (.int p1), .val (.int (p1 * (8 : Int32))), .val (.long (own_acc g 8 5)), .second, .val (.int (2 : Int32))] [(.int (2 : Int32))])) t → Steps p.tables e below (s₁.setTop (mkF m 0 #[.val (.ref a1), .val (.int p1), .unset, .unset, .unset, .unset] [])) t := by
    intro t k
    refine R272 t ?_
    refine XS.iload X264.here hx rfl (hb hby d5_17) rfl ?_
    exact k
  have R274 : ∀ t, Steps p.tables e below (T264.setTop (mkF m 22 #[.val (.ref a1), .val (.int p1), .val (.int (p1 * (8 : Int32))), .val (.long (own_acc g 8 5)), .second, .val (.int (2 : Int32))] [])) t → Steps p.tables e below (s₁.setTop (mkF m 0 #[.val (.ref a1), .val (.int p1), .unset, .unset, .unset, .unset] [])) t := by
    intro t k
    refine R273 t ?_
    refine XS.ifNo X264.here hx rfl (hb hby d5_19) rfl ((if0 _ _).trans (flt (by decide)).1) ?_
    exact k
  have R275 : ∀ t, Steps p.tables e below (T264.setTop (mkF m 27 #[.val (.ref a1), .val (.int p1), .val (.int (p1 * (8 : Int32))), .val (.long (own_acc g 8 5)), .second, .val (.int (2 : Int32))] [(.ref a1), (.long (((own_acc g 8 5) <<< ((8 : Int32) &&& 0x3f).toInt64)))])) t → Steps p.tables e below (s₁.setTop (mkF m 0 #[.val (.ref a1), .val (.int p1), .unset, .unset, .unset, .unset] [])) t := by
    intro t k
    refine R274 t ?_
    refine XS.lloadN X264.here hx rfl (hb hby d5_22) rfl ?_
    refine XS.bipush X264.here hx rfl (hb hby d5_23) ?_
    refine XS.lshl X264.here hx rfl (hb hby d5_25) rfl ?_
    refine XS.aloadN X264.here hx rfl (hb hby d5_26) rfl rfl ?_
    exact k
  obtain ⟨T276, X276, e276, st276⟩ := getF X264 hx hZ hown (host := "") (Or.inl (hw _ (List.mem_of_getElem? (i := 24) rfl))) Via.refl e264 F_02 (g := (mkF m 27 #[.val (.ref a1), .val (.int p1), .val (.int (p1 * (8 : Int32))), .val (.long (own_acc g 8 5)), .second, .val (.int (2 : Int32))] [(.ref a1), (.long (((own_acc g 8 5) <<< ((8 : Int32) &&& 0x3f).toInt64)))])) rfl rfl (hb hby d5_27)
  have R277 : ∀ t, Steps p.tables e below (T276.setTop (mkF m 30 #[.val (.ref a1), .val (.int p1), .val (.int (p1 * (8 : Int32))), .val (.long (own_acc g 8 5)), .second, .val (.int (2 : Int32))] [(.ref ta), (.long (((own_acc g 8 5) <<< ((8 : Int32) &&& 0x3f).toInt64)))])) t → Steps p.tables e below (s₁.setTop (mkF m 0 #[.val (.ref a1), .val (.int p1), .unset, .unset, .unset, .unset] [])) t := fun t k => R275 t (st276 _ k)
  have R278 : ∀ t, Steps p.tables e below (T276.setTop (mkF m 34 #[.val (.ref a1), .val (.int p1), .val (.int (p1 * (8 : Int32))), .val (.long (own_acc g 8 5)), .second, .val (.int (2 : Int32))] [(.int ((p1 * (8 : Int32)) + (2 : Int32))), (.ref ta), (.long (((own_acc g 8 5) <<< ((8 : Int32) &&& 0x3f).toInt64)))])) t → Steps p.tables e below (s₁.setTop (mkF m 0 #[.val (.ref a1), .val (.int p1), .unset, .unset, .unset, .unset] [])) t := by
    intro t k
    refine R277 t ?_
    refine XS.iloadN X276.here hx rfl (hb hby d5_30) rfl ?_
    refine XS.iload X276.here hx rfl (hb hby d5_31) rfl ?_
    refine XS.iadd X276.here hx rfl (hb hby d5_33) rfl ?_
    exact k
  obtain ⟨cl279, Ar279, q279, Sz279, Nn279, Hh279, G279⟩ := id V_0
  have hin279 : ¬ (((p1 * (8 : Int32)) + (2 : Int32)) < 0 ∨ cl279.slots.size ≤ (((p1 * (8 : Int32)) + (2 : Int32))).toNatClampNeg) := inb_of Sz279 (hg 2 (by decide)).1
  have R280 : ∀ t, Steps p.tables e below (T276.setTop (mkF m 35 #[.val (.ref a1), .val (.int p1), .val (.int (p1 * (8 : Int32))), .val (.long (own_acc g 8 5)), .second, .val (.int (2 : Int32))] [(.int (g 2)), (.long (((own_acc g 8 5) <<< ((8 : Int32) &&& 0x3f).toInt64)))])) t → Steps p.tables e below (s₁.setTop (mkF m 0 #[.val (.ref a1), .val (.int p1), .unset, .unset, .unset, .unset] [])) t := by
    intro t k
    refine R278 t ?_
    refine X276.baloadBytes hx (j := ((p1 * (8 : Int32)) + (2 : Int32))) (v := (.int (g 2))) (by rw [e276]; exact Ar279.1) (State.isArrayOf_alike hZ.alike Ar279.2.1) Ar279.2.2 hin279 (Hh279.at hin279 (hg 2 (by decide)).2) (g := (mkF m 34 #[.val (.ref a1), .val (.int p1), .val (.int (p1 * (8 : Int32))), .val (.long (own_acc g 8 5)), .second, .val (.int (2 : Int32))] [(.int ((p1 * (8 : Int32)) + (2 : Int32))), (.ref ta), (.long (((own_acc g 8 5) <<< ((8 : Int32) &&& 0x3f).toInt64)))])) rfl rfl (hb hby d5_34) _ ?_
    exact k
  have R281 : ∀ t, Steps p.tables e below (T276.setTop (mkF m 41 #[.val (.ref a1), .val (.int p1), .val (.int (p1 * (8 : Int32))), .val (.long (own_acc g 8 5)), .second, .val (.int (2 : Int32))] [(.long ((((own_acc g 8 5) <<< ((8 : Int32) &&& 0x3f).toInt64)) ||| ((((g 2) &&& (255 : Int32))).toInt64)))])) t → Steps p.tables e below (s₁.setTop (mkF m 0 #[.val (.ref a1), .val (.int p1), .unset, .unset, .unset, .unset] [])) t := by
    intro t k
    refine R280 t ?_
    refine XS.sipush X276.here hx rfl (hb hby d5_35) ?_
    refine XS.iand X276.here hx rfl (hb hby d5_38) rfl ?_
    refine XS.i2l X276.here hx rfl (hb hby d5_39) rfl ?_
    refine XS.lor X276.here hx rfl (hb hby d5_40) rfl ?_
    exact k
  have R282 : ∀ t, Steps p.tables e below (T276.setTop (mkF m 42 #[.val (.ref a1), .val (.int p1), .val (.int (p1 * (8 : Int32))), .val (.long (own_acc g 8 6)), .second, .val (.int (2 : Int32))] [])) t → Steps p.tables e below (s₁.setTop (mkF m 0 #[.val (.ref a1), .val (.int p1), .unset, .unset, .unset, .unset] [])) t := by
    intro t k
    refine R281 t ?_
    refine XS.lstoreN X276.here hx rfl (hb hby d5_41) rfl (l' := #[.val (.ref a1), .val (.int p1), .val (.int (p1 * (8 : Int32))), .val (.long (own_acc g 8 6)), .second, .val (.int (2 : Int32))]) rfl ?_
    exact k
  have R283 : ∀ t, Steps p.tables e below (T276.setTop (mkF m 45 #[.val (.ref a1), .val (.int p1), .val (.int (p1 * (8 : Int32))), .val (.long (own_acc g 8 6)), .second, .val (.int ((2 : Int32) + (-1 : Int32)))] [])) t → Steps p.tables e below (s₁.setTop (mkF m 0 #[.val (.ref a1), .val (.int p1), .unset, .unset, .unset, .unset] [])) t := by
    intro t k
    refine R282 t ?_
    refine XS.iinc X276.here hx rfl (hb hby d5_42) rfl (l' := #[.val (.ref a1), .val (.int p1), .val (.int (p1 * (8 : Int32))), .val (.long (own_acc g 8 6)), .second, .val (.int ((2 : Int32) + (-1 : Int32)))]) rfl ?_
    exact k
  have R284 : ∀ t, Steps p.tables e below (T276.setTop (mkF m 17 #[.val (.ref a1), .val (.int p1), .val (.int (p1 * (8 : Int32))), .val (.long (own_acc g 8 6)), .second, .val (.int (1 : Int32))] [])) t → Steps p.tables e below (s₁.setTop (mkF m 0 #[.val (.ref a1), .val (.int p1), .unset, .unset, .unset, .unset] [])) t := by
    intro t k
    refine R283 t ?_
    refine XS.goto X276.here hx rfl (pc0 := 45) (pc' := 17) rfl (hb hby d5_45) (by decide) (by decide) ?_
    exact k
  have R285 : ∀ t, Steps p.tables e below (T276.setTop (mkF m 19 #[.val (.ref a1), .val (.int p1), .val (.int (p1 * (8 : Int32))), .val (.long (own_acc g 8 6)), .second, .val (.int (1 : Int32))] [(.int (1 : Int32))])) t → Steps p.tables e below (s₁.setTop (mkF m 0 #[.val (.ref a1), .val (.int p1), .unset, .unset, .unset, .unset] [])) t := by
    intro t k
    refine R284 t ?_
    refine XS.iload X276.here hx rfl (hb hby d5_17) rfl ?_
    exact k
  have R286 : ∀ t, Steps p.tables e below (T276.setTop (mkF m 22 #[.val (.ref a1), .val (.int p1), .val (.int (p1 * (8 : Int32))), .val (.long (own_acc g 8 6)), .second, .val (.int (1 : Int32))] [])) t → Steps p.tables e below (s₁.setTop (mkF m 0 #[.val (.ref a1), .val (.int p1), .unset, .unset, .unset, .unset] [])) t := by
    intro t k
    refine R285 t ?_
    refine XS.ifNo X276.here hx rfl (hb hby d5_19) rfl ((if0 _ _).trans (flt (by decide)).1) ?_
    exact k
  have R287 : ∀ t, Steps p.tables e below (T276.setTop (mkF m 27 #[.val (.ref a1), .val (.int p1), .val (.int (p1 * (8 : Int32))), .val (.long (own_acc g 8 6)), .second, .val (.int (1 : Int32))] [(.ref a1), (.long (((own_acc g 8 6) <<< ((8 : Int32) &&& 0x3f).toInt64)))])) t → Steps p.tables e below (s₁.setTop (mkF m 0 #[.val (.ref a1), .val (.int p1), .unset, .unset, .unset, .unset] [])) t := by
    intro t k
    refine R286 t ?_
    refine XS.lloadN X276.here hx rfl (hb hby d5_22) rfl ?_
    refine XS.bipush X276.here hx rfl (hb hby d5_23) ?_
    refine XS.lshl X276.here hx rfl (hb hby d5_25) rfl ?_
    refine XS.aloadN X276.here hx rfl (hb hby d5_26) rfl rfl ?_
    exact k
  obtain ⟨T288, X288, e288, st288⟩ := getF X276 hx hZ hown (host := "") (Or.inl (hw _ (List.mem_of_getElem? (i := 24) rfl))) Via.refl e276 F_02 (g := (mkF m 27 #[.val (.ref a1), .val (.int p1), .val (.int (p1 * (8 : Int32))), .val (.long (own_acc g 8 6)), .second, .val (.int (1 : Int32))] [(.ref a1), (.long (((own_acc g 8 6) <<< ((8 : Int32) &&& 0x3f).toInt64)))])) rfl rfl (hb hby d5_27)
  have R289 : ∀ t, Steps p.tables e below (T288.setTop (mkF m 30 #[.val (.ref a1), .val (.int p1), .val (.int (p1 * (8 : Int32))), .val (.long (own_acc g 8 6)), .second, .val (.int (1 : Int32))] [(.ref ta), (.long (((own_acc g 8 6) <<< ((8 : Int32) &&& 0x3f).toInt64)))])) t → Steps p.tables e below (s₁.setTop (mkF m 0 #[.val (.ref a1), .val (.int p1), .unset, .unset, .unset, .unset] [])) t := fun t k => R287 t (st288 _ k)
  have R290 : ∀ t, Steps p.tables e below (T288.setTop (mkF m 34 #[.val (.ref a1), .val (.int p1), .val (.int (p1 * (8 : Int32))), .val (.long (own_acc g 8 6)), .second, .val (.int (1 : Int32))] [(.int ((p1 * (8 : Int32)) + (1 : Int32))), (.ref ta), (.long (((own_acc g 8 6) <<< ((8 : Int32) &&& 0x3f).toInt64)))])) t → Steps p.tables e below (s₁.setTop (mkF m 0 #[.val (.ref a1), .val (.int p1), .unset, .unset, .unset, .unset] [])) t := by
    intro t k
    refine R289 t ?_
    refine XS.iloadN X288.here hx rfl (hb hby d5_30) rfl ?_
    refine XS.iload X288.here hx rfl (hb hby d5_31) rfl ?_
    refine XS.iadd X288.here hx rfl (hb hby d5_33) rfl ?_
    exact k
  obtain ⟨cl291, Ar291, q291, Sz291, Nn291, Hh291, G291⟩ := id V_0
  have hin291 : ¬ (((p1 * (8 : Int32)) + (1 : Int32)) < 0 ∨ cl291.slots.size ≤ (((p1 * (8 : Int32)) + (1 : Int32))).toNatClampNeg) := inb_of Sz291 (hg 1 (by decide)).1
  have R292 : ∀ t, Steps p.tables e below (T288.setTop (mkF m 35 #[.val (.ref a1), .val (.int p1), .val (.int (p1 * (8 : Int32))), .val (.long (own_acc g 8 6)), .second, .val (.int (1 : Int32))] [(.int (g 1)), (.long (((own_acc g 8 6) <<< ((8 : Int32) &&& 0x3f).toInt64)))])) t → Steps p.tables e below (s₁.setTop (mkF m 0 #[.val (.ref a1), .val (.int p1), .unset, .unset, .unset, .unset] [])) t := by
    intro t k
    refine R290 t ?_
    refine X288.baloadBytes hx (j := ((p1 * (8 : Int32)) + (1 : Int32))) (v := (.int (g 1))) (by rw [e288]; exact Ar291.1) (State.isArrayOf_alike hZ.alike Ar291.2.1) Ar291.2.2 hin291 (Hh291.at hin291 (hg 1 (by decide)).2) (g := (mkF m 34 #[.val (.ref a1), .val (.int p1), .val (.int (p1 * (8 : Int32))), .val (.long (own_acc g 8 6)), .second, .val (.int (1 : Int32))] [(.int ((p1 * (8 : Int32)) + (1 : Int32))), (.ref ta), (.long (((own_acc g 8 6) <<< ((8 : Int32) &&& 0x3f).toInt64)))])) rfl rfl (hb hby d5_34) _ ?_
    exact k
  have R293 : ∀ t, Steps p.tables e below (T288.setTop (mkF m 41 #[.val (.ref a1), .val (.int p1), .val (.int (p1 * (8 : Int32))), .val (.long (own_acc g 8 6)), .second, .val (.int (1 : Int32))] [(.long ((((own_acc g 8 6) <<< ((8 : Int32) &&& 0x3f).toInt64)) ||| ((((g 1) &&& (255 : Int32))).toInt64)))])) t → Steps p.tables e below (s₁.setTop (mkF m 0 #[.val (.ref a1), .val (.int p1), .unset, .unset, .unset, .unset] [])) t := by
    intro t k
    refine R292 t ?_
    refine XS.sipush X288.here hx rfl (hb hby d5_35) ?_
    refine XS.iand X288.here hx rfl (hb hby d5_38) rfl ?_
    refine XS.i2l X288.here hx rfl (hb hby d5_39) rfl ?_
    refine XS.lor X288.here hx rfl (hb hby d5_40) rfl ?_
    exact k
  have R294 : ∀ t, Steps p.tables e below (T288.setTop (mkF m 42 #[.val (.ref a1), .val (.int p1), .val (.int (p1 * (8 : Int32))), .val (.long (own_acc g 8 7)), .second, .val (.int (1 : Int32))] [])) t → Steps p.tables e below (s₁.setTop (mkF m 0 #[.val (.ref a1), .val (.int p1), .unset, .unset, .unset, .unset] [])) t := by
    intro t k
    refine R293 t ?_
    refine XS.lstoreN X288.here hx rfl (hb hby d5_41) rfl (l' := #[.val (.ref a1), .val (.int p1), .val (.int (p1 * (8 : Int32))), .val (.long (own_acc g 8 7)), .second, .val (.int (1 : Int32))]) rfl ?_
    exact k
  have R295 : ∀ t, Steps p.tables e below (T288.setTop (mkF m 45 #[.val (.ref a1), .val (.int p1), .val (.int (p1 * (8 : Int32))), .val (.long (own_acc g 8 7)), .second, .val (.int ((1 : Int32) + (-1 : Int32)))] [])) t → Steps p.tables e below (s₁.setTop (mkF m 0 #[.val (.ref a1), .val (.int p1), .unset, .unset, .unset, .unset] [])) t := by
    intro t k
    refine R294 t ?_
    refine XS.iinc X288.here hx rfl (hb hby d5_42) rfl (l' := #[.val (.ref a1), .val (.int p1), .val (.int (p1 * (8 : Int32))), .val (.long (own_acc g 8 7)), .second, .val (.int ((1 : Int32) + (-1 : Int32)))]) rfl ?_
    exact k
  have R296 : ∀ t, Steps p.tables e below (T288.setTop (mkF m 17 #[.val (.ref a1), .val (.int p1), .val (.int (p1 * (8 : Int32))), .val (.long (own_acc g 8 7)), .second, .val (.int (0 : Int32))] [])) t → Steps p.tables e below (s₁.setTop (mkF m 0 #[.val (.ref a1), .val (.int p1), .unset, .unset, .unset, .unset] [])) t := by
    intro t k
    refine R295 t ?_
    refine XS.goto X288.here hx rfl (pc0 := 45) (pc' := 17) rfl (hb hby d5_45) (by decide) (by decide) ?_
    exact k
  have R297 : ∀ t, Steps p.tables e below (T288.setTop (mkF m 19 #[.val (.ref a1), .val (.int p1), .val (.int (p1 * (8 : Int32))), .val (.long (own_acc g 8 7)), .second, .val (.int (0 : Int32))] [(.int (0 : Int32))])) t → Steps p.tables e below (s₁.setTop (mkF m 0 #[.val (.ref a1), .val (.int p1), .unset, .unset, .unset, .unset] [])) t := by
    intro t k
    refine R296 t ?_
    refine XS.iload X288.here hx rfl (hb hby d5_17) rfl ?_
    exact k
  have R298 : ∀ t, Steps p.tables e below (T288.setTop (mkF m 22 #[.val (.ref a1), .val (.int p1), .val (.int (p1 * (8 : Int32))), .val (.long (own_acc g 8 7)), .second, .val (.int (0 : Int32))] [])) t → Steps p.tables e below (s₁.setTop (mkF m 0 #[.val (.ref a1), .val (.int p1), .unset, .unset, .unset, .unset] [])) t := by
    intro t k
    refine R297 t ?_
    refine XS.ifNo X288.here hx rfl (hb hby d5_19) rfl ((if0 _ _).trans (flt (by decide)).1) ?_
    exact k
  have R299 : ∀ t, Steps p.tables e below (T288.setTop (mkF m 27 #[.val (.ref a1), .val (.int p1), .val (.int (p1 * (8 : Int32))), .val (.long (own_acc g 8 7)), .second, .val (.int (0 : Int32))] [(.ref a1), (.long (((own_acc g 8 7) <<< ((8 : Int32) &&& 0x3f).toInt64)))])) t → Steps p.tables e below (s₁.setTop (mkF m 0 #[.val (.ref a1), .val (.int p1), .unset, .unset, .unset, .unset] [])) t := by
    intro t k
    refine R298 t ?_
    refine XS.lloadN X288.here hx rfl (hb hby d5_22) rfl ?_
    refine XS.bipush X288.here hx rfl (hb hby d5_23) ?_
    refine XS.lshl X288.here hx rfl (hb hby d5_25) rfl ?_
    refine XS.aloadN X288.here hx rfl (hb hby d5_26) rfl rfl ?_
    exact k
  obtain ⟨T300, X300, e300, st300⟩ := getF X288 hx hZ hown (host := "") (Or.inl (hw _ (List.mem_of_getElem? (i := 24) rfl))) Via.refl e288 F_02 (g := (mkF m 27 #[.val (.ref a1), .val (.int p1), .val (.int (p1 * (8 : Int32))), .val (.long (own_acc g 8 7)), .second, .val (.int (0 : Int32))] [(.ref a1), (.long (((own_acc g 8 7) <<< ((8 : Int32) &&& 0x3f).toInt64)))])) rfl rfl (hb hby d5_27)
  have R301 : ∀ t, Steps p.tables e below (T300.setTop (mkF m 30 #[.val (.ref a1), .val (.int p1), .val (.int (p1 * (8 : Int32))), .val (.long (own_acc g 8 7)), .second, .val (.int (0 : Int32))] [(.ref ta), (.long (((own_acc g 8 7) <<< ((8 : Int32) &&& 0x3f).toInt64)))])) t → Steps p.tables e below (s₁.setTop (mkF m 0 #[.val (.ref a1), .val (.int p1), .unset, .unset, .unset, .unset] [])) t := fun t k => R299 t (st300 _ k)
  have R302 : ∀ t, Steps p.tables e below (T300.setTop (mkF m 34 #[.val (.ref a1), .val (.int p1), .val (.int (p1 * (8 : Int32))), .val (.long (own_acc g 8 7)), .second, .val (.int (0 : Int32))] [(.int ((p1 * (8 : Int32)) + (0 : Int32))), (.ref ta), (.long (((own_acc g 8 7) <<< ((8 : Int32) &&& 0x3f).toInt64)))])) t → Steps p.tables e below (s₁.setTop (mkF m 0 #[.val (.ref a1), .val (.int p1), .unset, .unset, .unset, .unset] [])) t := by
    intro t k
    refine R301 t ?_
    refine XS.iloadN X300.here hx rfl (hb hby d5_30) rfl ?_
    refine XS.iload X300.here hx rfl (hb hby d5_31) rfl ?_
    refine XS.iadd X300.here hx rfl (hb hby d5_33) rfl ?_
    exact k
  obtain ⟨cl303, Ar303, q303, Sz303, Nn303, Hh303, G303⟩ := id V_0
  have hin303 : ¬ (((p1 * (8 : Int32)) + (0 : Int32)) < 0 ∨ cl303.slots.size ≤ (((p1 * (8 : Int32)) + (0 : Int32))).toNatClampNeg) := inb_of Sz303 (hg 0 (by decide)).1
  have R304 : ∀ t, Steps p.tables e below (T300.setTop (mkF m 35 #[.val (.ref a1), .val (.int p1), .val (.int (p1 * (8 : Int32))), .val (.long (own_acc g 8 7)), .second, .val (.int (0 : Int32))] [(.int (g 0)), (.long (((own_acc g 8 7) <<< ((8 : Int32) &&& 0x3f).toInt64)))])) t → Steps p.tables e below (s₁.setTop (mkF m 0 #[.val (.ref a1), .val (.int p1), .unset, .unset, .unset, .unset] [])) t := by
    intro t k
    refine R302 t ?_
    refine X300.baloadBytes hx (j := ((p1 * (8 : Int32)) + (0 : Int32))) (v := (.int (g 0))) (by rw [e300]; exact Ar303.1) (State.isArrayOf_alike hZ.alike Ar303.2.1) Ar303.2.2 hin303 (Hh303.at hin303 (hg 0 (by decide)).2) (g := (mkF m 34 #[.val (.ref a1), .val (.int p1), .val (.int (p1 * (8 : Int32))), .val (.long (own_acc g 8 7)), .second, .val (.int (0 : Int32))] [(.int ((p1 * (8 : Int32)) + (0 : Int32))), (.ref ta), (.long (((own_acc g 8 7) <<< ((8 : Int32) &&& 0x3f).toInt64)))])) rfl rfl (hb hby d5_34) _ ?_
    exact k
  have R305 : ∀ t, Steps p.tables e below (T300.setTop (mkF m 41 #[.val (.ref a1), .val (.int p1), .val (.int (p1 * (8 : Int32))), .val (.long (own_acc g 8 7)), .second, .val (.int (0 : Int32))] [(.long ((((own_acc g 8 7) <<< ((8 : Int32) &&& 0x3f).toInt64)) ||| ((((g 0) &&& (255 : Int32))).toInt64)))])) t → Steps p.tables e below (s₁.setTop (mkF m 0 #[.val (.ref a1), .val (.int p1), .unset, .unset, .unset, .unset] [])) t := by
    intro t k
    refine R304 t ?_
    refine XS.sipush X300.here hx rfl (hb hby d5_35) ?_
    refine XS.iand X300.here hx rfl (hb hby d5_38) rfl ?_
    refine XS.i2l X300.here hx rfl (hb hby d5_39) rfl ?_
    refine XS.lor X300.here hx rfl (hb hby d5_40) rfl ?_
    exact k
  have R306 : ∀ t, Steps p.tables e below (T300.setTop (mkF m 42 #[.val (.ref a1), .val (.int p1), .val (.int (p1 * (8 : Int32))), .val (.long (own_acc g 8 8)), .second, .val (.int (0 : Int32))] [])) t → Steps p.tables e below (s₁.setTop (mkF m 0 #[.val (.ref a1), .val (.int p1), .unset, .unset, .unset, .unset] [])) t := by
    intro t k
    refine R305 t ?_
    refine XS.lstoreN X300.here hx rfl (hb hby d5_41) rfl (l' := #[.val (.ref a1), .val (.int p1), .val (.int (p1 * (8 : Int32))), .val (.long (own_acc g 8 8)), .second, .val (.int (0 : Int32))]) rfl ?_
    exact k
  have R307 : ∀ t, Steps p.tables e below (T300.setTop (mkF m 45 #[.val (.ref a1), .val (.int p1), .val (.int (p1 * (8 : Int32))), .val (.long (own_acc g 8 8)), .second, .val (.int ((0 : Int32) + (-1 : Int32)))] [])) t → Steps p.tables e below (s₁.setTop (mkF m 0 #[.val (.ref a1), .val (.int p1), .unset, .unset, .unset, .unset] [])) t := by
    intro t k
    refine R306 t ?_
    refine XS.iinc X300.here hx rfl (hb hby d5_42) rfl (l' := #[.val (.ref a1), .val (.int p1), .val (.int (p1 * (8 : Int32))), .val (.long (own_acc g 8 8)), .second, .val (.int ((0 : Int32) + (-1 : Int32)))]) rfl ?_
    exact k
  have R308 : ∀ t, Steps p.tables e below (T300.setTop (mkF m 17 #[.val (.ref a1), .val (.int p1), .val (.int (p1 * (8 : Int32))), .val (.long (own_acc g 8 8)), .second, .val (.int (-1 : Int32))] [])) t → Steps p.tables e below (s₁.setTop (mkF m 0 #[.val (.ref a1), .val (.int p1), .unset, .unset, .unset, .unset] [])) t := by
    intro t k
    refine R307 t ?_
    refine XS.goto X300.here hx rfl (pc0 := 45) (pc' := 17) rfl (hb hby d5_45) (by decide) (by decide) ?_
    exact k
  have R309 : ∀ t, Steps p.tables e below (T300.setTop (mkF m 19 #[.val (.ref a1), .val (.int p1), .val (.int (p1 * (8 : Int32))), .val (.long (own_acc g 8 8)), .second, .val (.int (-1 : Int32))] [(.int (-1 : Int32))])) t → Steps p.tables e below (s₁.setTop (mkF m 0 #[.val (.ref a1), .val (.int p1), .unset, .unset, .unset, .unset] [])) t := by
    intro t k
    refine R308 t ?_
    refine XS.iload X300.here hx rfl (hb hby d5_17) rfl ?_
    exact k
  have R310 : ∀ t, Steps p.tables e below (T300.setTop (mkF m 48 #[.val (.ref a1), .val (.int p1), .val (.int (p1 * (8 : Int32))), .val (.long (own_acc g 8 8)), .second, .val (.int (-1 : Int32))] [])) t → Steps p.tables e below (s₁.setTop (mkF m 0 #[.val (.ref a1), .val (.int p1), .unset, .unset, .unset, .unset] [])) t := by
    intro t k
    refine R309 t ?_
    refine XS.ifYes X300.here hx rfl (pc0 := 19) (pc' := 48) rfl (hb hby d5_19) rfl ((if0 _ _).trans (tlt (by decide)).1) (by decide) (by decide) ?_
    exact k
  have R311 : ∀ t, Steps p.tables e below (T300.setTop (mkF m 53 #[.val (.ref a1), .val (.int p1), .val (.int (p1 * (8 : Int32))), .val (.long (own_acc g 8 8)), .second, .val (.int (-1 : Int32))] [(.ref a1), (.int (8 : Int32)), (.int (64 : Int32))])) t → Steps p.tables e below (s₁.setTop (mkF m 0 #[.val (.ref a1), .val (.int p1), .unset, .unset, .unset, .unset] [])) t := by
    intro t k
    refine R310 t ?_
    refine XS.bipush X300.here hx rfl (hb hby d5_48) ?_
    refine XS.bipush X300.here hx rfl (hb hby d5_50) ?_
    refine XS.aloadN X300.here hx rfl (hb hby d5_52) rfl rfl ?_
    exact k
  obtain ⟨T312, X312, e312, st312⟩ := getF X300 hx hZ hown (host := "") (Or.inl (hw _ (List.mem_of_getElem? (i := 22) rfl))) Via.refl e300 F_01 (g := (mkF m 53 #[.val (.ref a1), .val (.int p1), .val (.int (p1 * (8 : Int32))), .val (.long (own_acc g 8 8)), .second, .val (.int (-1 : Int32))] [(.ref a1), (.int (8 : Int32)), (.int (64 : Int32))])) rfl rfl (hb hby d5_53)
  have R313 : ∀ t, Steps p.tables e below (T312.setTop (mkF m 56 #[.val (.ref a1), .val (.int p1), .val (.int (p1 * (8 : Int32))), .val (.long (own_acc g 8 8)), .second, .val (.int (-1 : Int32))] [(.int (8 : Int32)), (.int (8 : Int32)), (.int (64 : Int32))])) t → Steps p.tables e below (s₁.setTop (mkF m 0 #[.val (.ref a1), .val (.int p1), .unset, .unset, .unset, .unset] [])) t := fun t k => R311 t (st312 _ k)
  have R314 : ∀ t, Steps p.tables e below (T312.setTop (mkF m 58 #[.val (.ref a1), .val (.int p1), .val (.int (p1 * (8 : Int32))), .val (.long (own_acc g 8 8)), .second, .val (.int (-1 : Int32))] [(.int ((64 : Int32) - ((8 : Int32) * (8 : Int32))))])) t → Steps p.tables e below (s₁.setTop (mkF m 0 #[.val (.ref a1), .val (.int p1), .unset, .unset, .unset, .unset] [])) t := by
    intro t k
    refine R313 t ?_
    refine XS.imul X312.here hx rfl (hb hby d5_56) rfl ?_
    refine XS.isub X312.here hx rfl (hb hby d5_57) rfl ?_
    exact k
  have R315 : ∀ t, Steps p.tables e below (T312.setTop (mkF m 67 #[.val (.ref a1), .val (.int p1), .val (.int (p1 * (8 : Int32))), .val (.long (own_acc g 8 8)), .second, .val (.int (0 : Int32))] [(.long (own_sx (own_acc g 8 8) (0 : Int32)))])) t → Steps p.tables e below (s₁.setTop (mkF m 0 #[.val (.ref a1), .val (.int p1), .unset, .unset, .unset, .unset] [])) t := by
    intro t k
    refine R314 t ?_
    refine XS.istore X312.here hx rfl (hb hby d5_58) rfl (l' := #[.val (.ref a1), .val (.int p1), .val (.int (p1 * (8 : Int32))), .val (.long (own_acc g 8 8)), .second, .val (.int (0 : Int32))]) rfl ?_
    refine XS.lloadN X312.here hx rfl (hb hby d5_60) rfl ?_
    refine XS.iload X312.here hx rfl (hb hby d5_61) rfl ?_
    refine XS.lshl X312.here hx rfl (hb hby d5_63) rfl ?_
    refine XS.iload X312.here hx rfl (hb hby d5_64) rfl ?_
    refine XS.lshr X312.here hx rfl (hb hby d5_66) rfl ?_
    exact k
  obtain ⟨fs, hr, hrun, hended, hW, hsame⟩ := X312.leave (v := some (.long (own_sx (own_acc g 8 8) (0 : Int32)))) (fun h => by rw [Bd.returns] at h; cases h)
  refine ⟨_, _, pre0 _ (R315 _ (retOut X312 hx (t := .long) Bd.returns rfl (Or.inr (Or.inl ⟨rfl, rfl, _, rfl⟩)) (hb hby d5_67) hr)), hrun, hended, _, _, rfl, ?_, ⟨_, rfl⟩, hW, hsame.mono (by decide) (by decide)⟩
  show Q_rme8 Z a1 p1 ta k vs g h0 n0 _ T312.heap _
  rw [e312]
  exact ⟨rfl, N0, rfl⟩
def own_vs (q2 q3 : Int64) : List Value := [(.int (own_b0 q2)), (.int (own_b q2 (8 : Int32))), (.int (own_b q2 (16 : Int32))), (.int (own_b q2 (24 : Int32))), (.int (own_b q2 (32 : Int32))), (.int (own_b q2 (40 : Int32))), (.int (own_b q2 (48 : Int32))), (.int (own_b q2 (56 : Int32))), (.int (own_b0 q3)), (.int (own_b q3 (8 : Int32))), (.int (own_b q3 (16 : Int32))), (.int (own_b q3 (24 : Int32))), (.int (own_b q3 (32 : Int32))), (.int (own_b q3 (40 : Int32))), (.int (own_b q3 (48 : Int32))), (.int (own_b q3 (56 : Int32)))]
theorem own_lt4 (z : Int32) (h : z.toBitVec.toNat < 4) : z = (0 : Int32) ∨ z = (1 : Int32) ∨ z = (2 : Int32) ∨ z = (3 : Int32) := by
  have e : z = Int32.ofNat z.toBitVec.toNat := by
    apply Int32.toBitVec_inj.mp; apply BitVec.eq_of_toNat_eq
    show _ = (BitVec.ofNat 32 z.toBitVec.toNat).toNat
    rw [BitVec.toNat_ofNat, Nat.mod_eq_of_lt (by omega)]
  have h4 : z.toBitVec.toNat = 0 ∨ z.toBitVec.toNat = 1 ∨ z.toBitVec.toNat = 2 ∨ z.toBitVec.toNat = 3 := by omega
  rcases h4 with h | h | h | h <;> rw [h] at e <;> rw [e] <;> decide
theorem own_k (p1 : Int32) : (p1 &&& (3 : Int32)) = (0 : Int32) ∨ (p1 &&& (3 : Int32)) = (1 : Int32) ∨ (p1 &&& (3 : Int32)) = (2 : Int32) ∨ (p1 &&& (3 : Int32)) = (3 : Int32) := by
  apply own_lt4
  rw [Int32.toBitVec_and, BitVec.toNat_and]
  exact Nat.lt_of_le_of_lt Nat.and_le_right (by decide)
theorem own_nn (p : Int32) : 0 ≤ (p &&& (2147483647 : Int32)).toInt := by
  have h : (p &&& (2147483647 : Int32)).toBitVec.msb = false := by
    rw [Int32.toBitVec_and, BitVec.msb_and]
    have : (2147483647 : Int32).toBitVec.msb = false := by decide
    rw [this, Bool.and_false]
  show 0 ≤ (p &&& (2147483647 : Int32)).toBitVec.toInt
  rw [BitVec.toInt_eq_msb_cond, h]
  simp
theorem own_rem (x y : Int32) (hx : 0 ≤ x.toInt) (hy : 0 < y.toInt) : 0 ≤ (x - (x / y) * y).toInt ∧ (x - (x / y) * y).toInt < y.toInt := by
  have hx1 := x.toInt_lt
  have hd : (x / y).toInt = x.toInt / y.toInt := by
    rw [Int32.toInt_div, Int.tdiv_eq_ediv_of_nonneg hx]
    have h1 : 0 ≤ x.toInt / y.toInt := Int.ediv_nonneg hx (by omega)
    have h2 : x.toInt / y.toInt ≤ x.toInt := Int.ediv_le_self _ hx
    rw [Int.bmod_def]
    have : (x.toInt / y.toInt) % ((2 ^ 32 : Nat) : Int) = x.toInt / y.toInt := Int.emod_eq_of_lt h1 (by omega)
    rw [this, if_pos (by omega)]
  have h3 := Int.emod_add_mul_ediv x.toInt y.toInt
  have h4 := Int.emod_nonneg x.toInt (Int.ne_of_gt hy)
  have h5 := Int.emod_lt_of_pos x.toInt hy
  have h6 : 0 ≤ x.toInt / y.toInt := Int.ediv_nonneg hx (by omega)
  have h7 : 0 ≤ y.toInt * (x.toInt / y.toInt) := Int.mul_nonneg (by omega) h6
  have hm : ((x / y) * y).toInt = y.toInt * (x.toInt / y.toInt) := by
    rw [Int32.toInt_mul, hd, Int.mul_comm, Int.bmod_def]
    have : (y.toInt * (x.toInt / y.toInt)) % ((2 ^ 32 : Nat) : Int) = y.toInt * (x.toInt / y.toInt) := Int.emod_eq_of_lt h7 (by omega)
    rw [this, if_pos (by omega)]
  have hs : (x - (x / y) * y).toInt = x.toInt % y.toInt := by
    rw [Int32.toInt_sub, hm]
    have : x.toInt - y.toInt * (x.toInt / y.toInt) = x.toInt % y.toInt := by omega
    rw [this, Int.bmod_def, Int.emod_eq_of_lt h4 (by omega), if_pos (by omega)]
  rw [hs]; exact ⟨h4, h5⟩
theorem own_pos0 (p4 : Int32) : 0 ≤ (((p4 &&& (2147483647 : Int32)) - ((p4 &&& (2147483647 : Int32)) / (16 : Int32)) * (16 : Int32))).toInt ∧ (((p4 &&& (2147483647 : Int32)) - ((p4 &&& (2147483647 : Int32)) / (16 : Int32)) * (16 : Int32))).toInt < 16 := own_rem _ (16 : Int32) (own_nn p4) (by decide)
theorem own_pos1 (p4 : Int32) : 0 ≤ (((p4 &&& (2147483647 : Int32)) - ((p4 &&& (2147483647 : Int32)) / (8 : Int32)) * (8 : Int32))).toInt ∧ (((p4 &&& (2147483647 : Int32)) - ((p4 &&& (2147483647 : Int32)) / (8 : Int32)) * (8 : Int32))).toInt < 8 := own_rem _ (8 : Int32) (own_nn p4) (by decide)
theorem own_pos2 (p4 : Int32) : 0 ≤ (((p4 &&& (2147483647 : Int32)) - ((p4 &&& (2147483647 : Int32)) / (4 : Int32)) * (4 : Int32))).toInt ∧ (((p4 &&& (2147483647 : Int32)) - ((p4 &&& (2147483647 : Int32)) / (4 : Int32)) * (4 : Int32))).toInt < 4 := own_rem _ (4 : Int32) (own_nn p4) (by decide)
theorem own_pos3 (p4 : Int32) : 0 ≤ (((p4 &&& (2147483647 : Int32)) - ((p4 &&& (2147483647 : Int32)) / (2 : Int32)) * (2 : Int32))).toInt ∧ (((p4 &&& (2147483647 : Int32)) - ((p4 &&& (2147483647 : Int32)) / (2 : Int32)) * (2 : Int32))).toInt < 2 := own_rem _ (2 : Int32) (own_nn p4) (by decide)
theorem own_ofN {ps : Int32} {m : Nat} (h : 0 ≤ ps.toInt ∧ ps.toInt < m) : ∃ P : Nat, P < m ∧ ps = Int32.ofNat P ∧ ps.toNatClampNeg = P := by
  have h3 := ps.toInt_lt
  refine ⟨ps.toInt.toNat, by omega, ?_, rfl⟩
  apply Int32.toInt_inj.mp
  rw [Int32.toInt_ofNat_of_lt (by omega)]
  omega
theorem own_lt16 (q2 q3 : Int64) (n : Nat) (h : n < 16) : (own_vs q2 q3).getD n (.int (0 : Int32)) = .int (own_dat q2 q3 n) := by
  have h16 : n = 0 ∨ n = 1 ∨ n = 2 ∨ n = 3 ∨ n = 4 ∨ n = 5 ∨ n = 6 ∨ n = 7 ∨ n = 8 ∨ n = 9 ∨ n = 10 ∨ n = 11 ∨ n = 12 ∨ n = 13 ∨ n = 14 ∨ n = 15 := by omega
  rcases h16 with rfl | rfl | rfl | rfl | rfl | rfl | rfl | rfl | rfl | rfl | rfl | rfl | rfl | rfl | rfl | rfl <;> rfl
theorem own_ix0 : ∀ P : Nat, P < 16 → ∀ j : Nat, j < 1 → (¬ (Int32.ofNat P * (1 : Int32) + Int32.ofNat j) < 0 ∧ (Int32.ofNat P * (1 : Int32) + Int32.ofNat j) < (16 : Int32)) ∧ (Int32.ofNat P * (1 : Int32) + Int32.ofNat j).toNatClampNeg = P * 1 + j := by decide +kernel
theorem own_ix1 : ∀ P : Nat, P < 8 → ∀ j : Nat, j < 2 → (¬ (Int32.ofNat P * (2 : Int32) + Int32.ofNat j) < 0 ∧ (Int32.ofNat P * (2 : Int32) + Int32.ofNat j) < (16 : Int32)) ∧ (Int32.ofNat P * (2 : Int32) + Int32.ofNat j).toNatClampNeg = P * 2 + j := by decide +kernel
theorem own_ix2 : ∀ P : Nat, P < 4 → ∀ j : Nat, j < 4 → (¬ (Int32.ofNat P * (4 : Int32) + Int32.ofNat j) < 0 ∧ (Int32.ofNat P * (4 : Int32) + Int32.ofNat j) < (16 : Int32)) ∧ (Int32.ofNat P * (4 : Int32) + Int32.ofNat j).toNatClampNeg = P * 4 + j := by decide +kernel
theorem own_ix3 : ∀ P : Nat, P < 2 → ∀ j : Nat, j < 8 → (¬ (Int32.ofNat P * (8 : Int32) + Int32.ofNat j) < 0 ∧ (Int32.ofNat P * (8 : Int32) + Int32.ofNat j) < (16 : Int32)) ∧ (Int32.ofNat P * (8 : Int32) + Int32.ofNat j).toNatClampNeg = P * 8 + j := by decide +kernel
theorem own_hg0 (q2 q3 : Int64) (ps : Int32) (hps : 0 ≤ ps.toInt ∧ ps.toInt < 16) : ∀ j : Nat, j < 1 → (¬ (ps * (1 : Int32) + Int32.ofNat j) < 0 ∧ (ps * (1 : Int32) + Int32.ofNat j) < (16 : Int32)) ∧ (own_vs q2 q3).getD (ps * (1 : Int32) + Int32.ofNat j).toNatClampNeg (.int (0 : Int32)) = .int ((fun j => own_dat q2 q3 (ps.toNatClampNeg * 1 + j)) j) := by
  intro j hj
  obtain ⟨P, hP, e, e'⟩ := own_ofN (m := 16) hps
  obtain ⟨h1, h2⟩ := own_ix0 P hP j hj
  rw [e', e, h2]; exact ⟨h1, own_lt16 q2 q3 _ (by omega)⟩
theorem own_hg1 (q2 q3 : Int64) (ps : Int32) (hps : 0 ≤ ps.toInt ∧ ps.toInt < 8) : ∀ j : Nat, j < 2 → (¬ (ps * (2 : Int32) + Int32.ofNat j) < 0 ∧ (ps * (2 : Int32) + Int32.ofNat j) < (16 : Int32)) ∧ (own_vs q2 q3).getD (ps * (2 : Int32) + Int32.ofNat j).toNatClampNeg (.int (0 : Int32)) = .int ((fun j => own_dat q2 q3 (ps.toNatClampNeg * 2 + j)) j) := by
  intro j hj
  obtain ⟨P, hP, e, e'⟩ := own_ofN (m := 8) hps
  obtain ⟨h1, h2⟩ := own_ix1 P hP j hj
  rw [e', e, h2]; exact ⟨h1, own_lt16 q2 q3 _ (by omega)⟩
theorem own_hg2 (q2 q3 : Int64) (ps : Int32) (hps : 0 ≤ ps.toInt ∧ ps.toInt < 4) : ∀ j : Nat, j < 4 → (¬ (ps * (4 : Int32) + Int32.ofNat j) < 0 ∧ (ps * (4 : Int32) + Int32.ofNat j) < (16 : Int32)) ∧ (own_vs q2 q3).getD (ps * (4 : Int32) + Int32.ofNat j).toNatClampNeg (.int (0 : Int32)) = .int ((fun j => own_dat q2 q3 (ps.toNatClampNeg * 4 + j)) j) := by
  intro j hj
  obtain ⟨P, hP, e, e'⟩ := own_ofN (m := 4) hps
  obtain ⟨h1, h2⟩ := own_ix2 P hP j hj
  rw [e', e, h2]; exact ⟨h1, own_lt16 q2 q3 _ (by omega)⟩
theorem own_hg3 (q2 q3 : Int64) (ps : Int32) (hps : 0 ≤ ps.toInt ∧ ps.toInt < 2) : ∀ j : Nat, j < 8 → (¬ (ps * (8 : Int32) + Int32.ofNat j) < 0 ∧ (ps * (8 : Int32) + Int32.ofNat j) < (16 : Int32)) ∧ (own_vs q2 q3).getD (ps * (8 : Int32) + Int32.ofNat j).toNatClampNeg (.int (0 : Int32)) = .int ((fun j => own_dat q2 q3 (ps.toNatClampNeg * 8 + j)) j) := by
  intro j hj
  obtain ⟨P, hP, e, e'⟩ := own_ofN (m := 2) hps
  obtain ⟨h1, h2⟩ := own_ix3 P hP j hj
  rw [e', e, h2]; exact ⟨h1, own_lt16 q2 q3 _ (by omega)⟩
/-! the bytes -/
theorem own_and255 (z : Int32) : (z &&& (255 : Int32)).toInt64.toBitVec.toNat = z.toBitVec.toNat % 256 := by
  have h0 : (z &&& (255 : Int32)).toBitVec.toNat = z.toBitVec.toNat % 256 := by
    rw [Int32.toBitVec_and, BitVec.toNat_and, show (255 : Int32).toBitVec.toNat = 2 ^ 8 - 1 from by decide, Nat.and_two_pow_sub_one_eq_mod]
  have h1 : (z &&& (255 : Int32)).toInt = ((z.toBitVec.toNat % 256 : Nat) : Int) := by
    show (z &&& (255 : Int32)).toBitVec.toInt = _
    rw [BitVec.toInt_eq_toNat_cond, h0, if_pos (by omega)]
  have h2 : (z &&& (255 : Int32)).toInt64.toInt = ((z.toBitVec.toNat % 256 : Nat) : Int) := by rw [Int32.toInt_toInt64, h1]
  have h3 : (z &&& (255 : Int32)).toInt64.toBitVec.toInt = ((z.toBitVec.toNat % 256 : Nat) : Int) := h2
  rw [BitVec.toInt_eq_toNat_cond] at h3
  have h4 := (z &&& (255 : Int32)).toInt64.toBitVec.isLt
  split at h3 <;> omega
theorem own_low (x : Int32) : x.toInt8.toInt32.toBitVec.toNat % 256 = x.toBitVec.toNat % 256 := by
  have h : (x.toInt8.toInt32).toInt % 256 = x.toInt % 256 := by
    rw [Int8.toInt_toInt32, Int32.toInt_toInt8]
    exact Int.bmod_emod
  have e : ∀ y : Int32, y.toInt % 256 = ((y.toBitVec.toNat % 256 : Nat) : Int) := fun y => by
    show y.toBitVec.toInt % 256 = _
    rw [BitVec.toInt_eq_toNat_cond]; split <;> omega
  rw [e, e] at h; omega
theorem own_low64 (z : Int64) : z.toInt32.toBitVec.toNat % 256 = z.toBitVec.toNat % 256 := by
  have h : z.toInt32.toInt % 256 = z.toInt % 256 := by
    rw [Int64.toInt_toInt32]
    rw [← Int.emod_emod_of_dvd (z.toInt.bmod (2 ^ 32)) (show (256 : Int) ∣ ((2 ^ 32 : Nat) : Int) from by decide), Int.bmod_emod, Int.emod_emod_of_dvd _ (show (256 : Int) ∣ ((2 ^ 32 : Nat) : Int) from by decide)]
  have e : ∀ y : Int32, y.toInt % 256 = ((y.toBitVec.toNat % 256 : Nat) : Int) := fun y => by
    show y.toBitVec.toInt % 256 = _
    rw [BitVec.toInt_eq_toNat_cond]; split <;> omega
  have e' : z.toInt % 256 = ((z.toBitVec.toNat % 256 : Nat) : Int) := by
    show z.toBitVec.toInt % 256 = _
    rw [BitVec.toInt_eq_toNat_cond]; split <;> omega
  rw [e, e'] at h; omega
theorem own_byte (z : Int64) : (nar .byte ((z.toInt32).toInt8.toInt32) &&& (255 : Int32)).toInt64.toBitVec.toNat = z.toBitVec.toNat % 256 := by
  rw [own_and255]
  show ((z.toInt32).toInt8.toInt32).toInt8.toInt32.toBitVec.toNat % 256 = _
  rw [own_low, own_low, own_low64]
theorem own_u64 : ∀ n : Nat, n < 8 → (Int32.ofNat (8 * n) &&& 0x3f).toInt64.toUInt64.toBitVec % 64#64 = BitVec.ofNat 64 (8 * n) := by decide +kernel
theorem own_ush (q : Int64) (s : Int32) (n : Nat) (hn : n < 64) (h : (s &&& 0x3f).toInt64.toUInt64.toBitVec % 64#64 = BitVec.ofNat 64 n) : ((q.toUInt64 >>> (s &&& 0x3f).toInt64.toUInt64).toInt64).toBitVec.toNat = q.toBitVec.toNat / 2 ^ n := by
  show (q.toUInt64 >>> (s &&& 0x3f).toInt64.toUInt64).toBitVec.toNat = _
  rw [UInt64.toBitVec_shiftRight]
  show (q.toUInt64.toBitVec >>> ((s &&& 0x3f).toInt64.toUInt64.toBitVec % 64#64)).toNat = _
  rw [h, BitVec.ushiftRight_eq', BitVec.toNat_ushiftRight, BitVec.toNat_ofNat, Nat.mod_eq_of_lt (by omega), Nat.shiftRight_eq_div_pow]
  rfl
theorem own_dat_b (q2 q3 : Int64) (n : Nat) (h : n < 16) : (own_dat q2 q3 n &&& (255 : Int32)).toInt64.toBitVec.toNat = ((if n < 8 then q2 else q3).toBitVec.toNat / 2 ^ (8 * (n % 8))) % 256 := by
  unfold own_dat
  by_cases h0 : n = 0
  · subst h0
    rw [if_pos rfl, if_pos (by omega)]
    show (nar .byte ((q2.toInt32).toInt8.toInt32) &&& (255 : Int32)).toInt64.toBitVec.toNat = _
    rw [own_byte]; simp
  · rw [if_neg h0]
    by_cases h1 : n < 8
    · rw [if_pos h1, if_pos h1]
      show (nar .byte (((((q2).toUInt64 >>> (Int32.ofNat (8 * n) &&& 0x3f).toInt64.toUInt64).toInt64).toInt32).toInt8.toInt32) &&& (255 : Int32)).toInt64.toBitVec.toNat = _
      rw [own_byte, own_ush q2 _ (8 * n) (by omega) (own_u64 n h1), Nat.mod_eq_of_lt h1]
    · rw [if_neg h1, if_neg h1]
      by_cases h2 : n = 8
      · subst h2
        rw [if_pos rfl]
        show (nar .byte ((q3.toInt32).toInt8.toInt32) &&& (255 : Int32)).toInt64.toBitVec.toNat = _
        rw [own_byte]; simp
      · rw [if_neg h2]
        show (nar .byte (((((q3).toUInt64 >>> (Int32.ofNat (8 * (n - 8)) &&& 0x3f).toInt64.toUInt64).toInt64).toInt32).toInt8.toInt32) &&& (255 : Int32)).toInt64.toBitVec.toNat = _
        rw [own_byte, own_ush q3 _ (8 * (n - 8)) (by omega) (own_u64 (n - 8) (by omega))]
        congr 3; omega
theorem own_shl8 (x : Int64) : (x <<< ((8 : Int32) &&& 0x3f).toInt64).toBitVec = x.toBitVec <<< 8 := by
  rw [Int64.toBitVec_shiftLeft, show (((8 : Int32) &&& 0x3f).toInt64).toBitVec.smod 64 = BitVec.ofNat 64 8 from by decide]
  rfl
theorem own_acc_nat (g : Nat → Int32) (w : Nat) (X : Nat) (hw : w ≤ 8) (hb : ∀ j, j < w → (g j &&& (255 : Int32)).toInt64.toBitVec.toNat = (X / 256 ^ j) % 256) : ∀ t, t ≤ w → (own_acc g w t).toBitVec.toNat = (X / 256 ^ (w - t)) % 256 ^ t
  | 0, _ => by
    show (0 : Int64).toBitVec.toNat = _
    rw [Nat.pow_zero, Nat.mod_one]; rfl
  | t + 1, ht => by
    have ih := own_acc_nat g w X hw hb t (by omega)
    show ((own_acc g w t <<< ((8 : Int32) &&& 0x3f).toInt64) ||| (g (w - 1 - t) &&& (255 : Int32)).toInt64).toBitVec.toNat = _
    rw [Int64.toBitVec_or, BitVec.toNat_or, own_shl8, BitVec.toNat_shiftLeft, ih, hb _ (by omega)]
    have hsub : w - t = (w - 1 - t) + 1 := by omega
    have hsub' : w - (t + 1) = w - 1 - t := by omega
    rw [hsub', hsub, Nat.pow_succ, ← Nat.div_div_eq_div_mul]
    generalize X / 256 ^ (w - 1 - t) = Y
    have hlt : Y / 256 % 256 ^ t < 256 ^ t := Nat.mod_lt _ (Nat.pow_pos (by decide))
    have hpow : 256 ^ t * 256 ≤ 2 ^ 64 := by
      rw [← Nat.pow_succ, show (256 : Nat) = 2 ^ 8 from rfl, ← Nat.pow_mul]
      exact Nat.pow_le_pow_right (by decide) (by omega)
    have hno : (Y / 256 % 256 ^ t) <<< 8 < 2 ^ 64 := by
      rw [Nat.shiftLeft_eq]; omega
    rw [Nat.mod_eq_of_lt hno, ← Nat.shiftLeft_add_eq_or_of_lt (show Y % 256 < 2 ^ 8 from Nat.mod_lt _ (by decide)), Nat.shiftLeft_eq, show 256 ^ (t + 1) = 256 * 256 ^ t from by rw [Nat.pow_succ, Nat.mul_comm], Nat.mod_mul]
    omega
theorem own_bm (a : Int) (P H : Nat) (hP : 0 < P) : Int.bmod (a * P) (P * (2 * H)) / P = Int.bmod a (2 * H) := by
  have hP' : (0 : Int) < P := by omega
  have e1 : (a * P) % ((P * (2 * H) : Nat) : Int) = P * (a % ((2 * H : Nat) : Int)) := by
    rw [Int.mul_comm a, Int.natCast_mul, Int.mul_emod_mul_of_pos _ _ hP']
  have e2 : (((P * (2 * H) : Nat) : Int) + 1) / 2 = P * H := by
    have : ((P * (2 * H) : Nat) : Int) = 2 * (P * H) := by push_cast; rw [Int.mul_left_comm]
    rw [this]; generalize (P : Int) * (H : Int) = z; omega
  have e3 : (((2 * H : Nat) : Int) + 1) / 2 = H := by push_cast; omega
  rw [Int.bmod_def, Int.bmod_def, e1, e2, e3]
  by_cases h : a % ((2 * H : Nat) : Int) < (H : Int)
  · rw [if_pos h, if_pos (Int.mul_lt_mul_of_pos_left h hP'), Int.mul_ediv_cancel_left _ (by omega)]
  · have h' : ¬ ((P : Int) * (a % ((2 * H : Nat) : Int)) < (P : Int) * (H : Int)) := fun q => h (Int.lt_of_mul_lt_mul_left q (by omega))
    rw [if_neg h, if_neg h', show ((P * (2 * H) : Nat) : Int) = (P : Int) * ((2 * H : Nat) : Int) from Int.natCast_mul _ _, ← Int.mul_sub, Int.mul_ediv_cancel_left _ (by omega)]
theorem own_amt : ∀ k : Nat, k < 64 → (Int32.ofNat k &&& 0x3f).toInt64 = Int64.ofNat k ∧ (Int64.ofNat k).toBitVec.smod 64 = BitVec.ofNat 64 k := by decide +kernel
theorem own_i32 {y : Int32} {k : Nat} (hk : k < 2 ^ 31) (hy : y.toInt = k) : y = Int32.ofNat k := by
  apply Int32.toInt_inj.mp; rw [hy, Int32.toInt_ofNat_of_lt (by omega)]
theorem own_shl (x : Int64) (k : Nat) (hk : k < 64) : (x <<< Int64.ofNat k).toBitVec = x.toBitVec <<< k := by
  rw [Int64.toBitVec_shiftLeft, (own_amt k hk).2, BitVec.shiftLeft_eq', BitVec.toNat_ofNat, Nat.mod_eq_of_lt (by omega)]
theorem own_shr (x : Int64) (k : Nat) (hk : k < 64) : (x >>> Int64.ofNat k).toBitVec = x.toBitVec.sshiftRight k := by
  rw [Int64.toBitVec_shiftRight, (own_amt k hk).2, BitVec.sshiftRight_eq', BitVec.toNat_ofNat, Nat.mod_eq_of_lt (by omega)]
theorem own_sxI (x : Int64) (k : Nat) (hk : k < 64) : ((x <<< Int64.ofNat k) >>> Int64.ofNat k).toInt = Int.bmod x.toInt (2 ^ (64 - k)) := by
  show ((x <<< Int64.ofNat k) >>> Int64.ofNat k).toBitVec.toInt = _
  rw [own_shr _ k hk, own_shl _ k hk, BitVec.toInt_sshiftRight, BitVec.toInt_shiftLeft, Nat.shiftLeft_eq, Int.shiftRight_eq_div_pow]
  have hp : 2 ^ (64 - k) = 2 * 2 ^ (63 - k) := by rw [← Nat.pow_succ']; congr 1; omega
  have hq : (2 : Nat) ^ 64 = 2 ^ k * (2 * 2 ^ (63 - k)) := by rw [← hp, ← Nat.pow_add]; congr 1; omega
  have h1 := own_bm (x.toBitVec.toNat : Int) (2 ^ k) (2 ^ (63 - k)) (Nat.pow_pos (by decide))
  rw [← hq] at h1
  rw [Int.natCast_mul, h1, ← hp]
  show _ = Int.bmod x.toBitVec.toInt _
  rw [BitVec.toInt_eq_toNat_bmod, Int.bmod_bmod_of_dvd (Nat.pow_dvd_pow 2 (by omega))]
theorem own_fin (g : Nat → Int32) (w X : Nat) (hw : w ≤ 8) (hw1 : 1 ≤ w) (hb : ∀ j, j < w → (g j &&& (255 : Int32)).toInt64.toBitVec.toNat = (X / 256 ^ j) % 256) : ((own_acc g w w <<< Int64.ofNat (64 - 8 * w)) >>> Int64.ofNat (64 - 8 * w)).toInt = Int.bmod X (2 ^ (8 * w)) := by
  rw [own_sxI _ _ (by omega), show 64 - (64 - 8 * w) = 8 * w from by omega]
  show Int.bmod (own_acc g w w).toBitVec.toInt _ = _
  rw [BitVec.toInt_eq_toNat_bmod, Int.bmod_bmod_of_dvd (Nat.pow_dvd_pow 2 (by omega)), own_acc_nat g w X hw hb w (Nat.le_refl _), Nat.sub_self, Nat.pow_zero, Nat.div_one, show (256 : Nat) ^ w = 2 ^ (8 * w) from by rw [Nat.pow_mul]]
  rw [Int.natCast_emod, Int.emod_bmod]
theorem own_toI (x : Int64) (X : Nat) (h : x.toBitVec.toNat = X) (n : Nat) (hn : n ≤ 64) : Int.bmod x.toInt (2 ^ n) = Int.bmod X (2 ^ n) := by
  show Int.bmod x.toBitVec.toInt _ = _
  rw [BitVec.toInt_eq_toNat_bmod, h, Int.bmod_bmod_of_dvd (Nat.pow_dvd_pow 2 hn)]
theorem own_hb (q2 q3 : Int64) (n off w : Nat) (hn : n + w ≤ 16) (hoff : ∀ j, j < w → (n + j) % 8 = off + j ∧ (n + j < 8 ↔ n < 8)) : ∀ j, j < w → (own_dat q2 q3 (n + j) &&& (255 : Int32)).toInt64.toBitVec.toNat = (((if n < 8 then q2 else q3).toBitVec.toNat / 2 ^ (8 * off)) / 256 ^ j) % 256 := by
  intro j hj
  obtain ⟨h1, h2⟩ := hoff j hj
  rw [own_dat_b q2 q3 (n + j) (by omega), h1, Nat.div_div_eq_div_mul, show (256 : Nat) ^ j = 2 ^ (8 * j) from by rw [Nat.pow_mul], ← Nat.pow_add, ← Nat.mul_add]
  by_cases h : n < 8
  · rw [if_pos h, if_pos (h2.mpr h)]
  · rw [if_neg h, if_neg (fun q => h (h2.mp q))]
theorem own_xs0 : ∀ P : Nat, P < 16 → ((Int32.ofNat P * (1 : Int32)) < (8 : Int32) ↔ P * 1 < 8) ∧ ((((Int32.ofNat P * (1 : Int32)) &&& (7 : Int32)) * (8 : Int32)) &&& 0x3f).toInt64.toUInt64.toBitVec % 64#64 = BitVec.ofNat 64 (8 * ((P * 1) % 8)) := by decide +kernel
theorem own_law0 (q2 q3 : Int64) (ps : Int32) (hps : 0 ≤ ps.toInt ∧ ps.toInt < 16) : own_sx (own_acc (fun j => own_dat q2 q3 (ps.toNatClampNeg * 1 + j)) 1 1) (56 : Int32) = (((own_x (ps * (1 : Int32)) q2 q3).toInt32).toInt8.toInt32).toInt64 := by
  obtain ⟨P, hP, e, e'⟩ := own_ofN (m := 16) hps
  rw [e', e]
  obtain ⟨h1, h2⟩ := own_xs0 P hP
  have hx : (own_x (Int32.ofNat P * (1 : Int32)) q2 q3).toBitVec.toNat = (if P * 1 < 8 then q2 else q3).toBitVec.toNat / 2 ^ (8 * ((P * 1) % 8)) := by
    unfold own_x
    rw [own_ush _ _ (8 * ((P * 1) % 8)) (by omega) h2]
    unfold own_src
    by_cases h : P * 1 < 8
    · rw [if_pos h, if_pos (h1.mpr h)]
    · rw [if_neg h, if_neg (fun q => h (h1.mp q))]
  apply Int64.toInt_inj.mp
  have hb := own_hb q2 q3 (P * 1) ((P * 1) % 8) 1 (by omega) (fun j hj => by omega)
  have hf := own_fin (fun j => own_dat q2 q3 (P * 1 + j)) 1 _ (by decide) (by decide) hb
  refine Eq.trans hf ?_
  rw [Int32.toInt_toInt64, Int8.toInt_toInt32, Int32.toInt_toInt8, Int64.toInt_toInt32, Int.bmod_bmod_of_dvd (by decide), ← own_toI _ _ hx _ (by decide)]
theorem own_xs1 : ∀ P : Nat, P < 8 → ((Int32.ofNat P * (2 : Int32)) < (8 : Int32) ↔ P * 2 < 8) ∧ ((((Int32.ofNat P * (2 : Int32)) &&& (7 : Int32)) * (8 : Int32)) &&& 0x3f).toInt64.toUInt64.toBitVec % 64#64 = BitVec.ofNat 64 (8 * ((P * 2) % 8)) := by decide +kernel
theorem own_law1 (q2 q3 : Int64) (ps : Int32) (hps : 0 ≤ ps.toInt ∧ ps.toInt < 8) : own_sx (own_acc (fun j => own_dat q2 q3 (ps.toNatClampNeg * 2 + j)) 2 2) (48 : Int32) = (((own_x (ps * (2 : Int32)) q2 q3).toInt32).toInt16.toInt32).toInt64 := by
  obtain ⟨P, hP, e, e'⟩ := own_ofN (m := 8) hps
  rw [e', e]
  obtain ⟨h1, h2⟩ := own_xs1 P hP
  have hx : (own_x (Int32.ofNat P * (2 : Int32)) q2 q3).toBitVec.toNat = (if P * 2 < 8 then q2 else q3).toBitVec.toNat / 2 ^ (8 * ((P * 2) % 8)) := by
    unfold own_x
    rw [own_ush _ _ (8 * ((P * 2) % 8)) (by omega) h2]
    unfold own_src
    by_cases h : P * 2 < 8
    · rw [if_pos h, if_pos (h1.mpr h)]
    · rw [if_neg h, if_neg (fun q => h (h1.mp q))]
  apply Int64.toInt_inj.mp
  have hb := own_hb q2 q3 (P * 2) ((P * 2) % 8) 2 (by omega) (fun j hj => by omega)
  have hf := own_fin (fun j => own_dat q2 q3 (P * 2 + j)) 2 _ (by decide) (by decide) hb
  refine Eq.trans hf ?_
  rw [Int32.toInt_toInt64, Int16.toInt_toInt32, Int32.toInt_toInt16, Int64.toInt_toInt32, Int.bmod_bmod_of_dvd (by decide), ← own_toI _ _ hx _ (by decide)]
theorem own_xs2 : ∀ P : Nat, P < 4 → ((Int32.ofNat P * (4 : Int32)) < (8 : Int32) ↔ P * 4 < 8) ∧ ((((Int32.ofNat P * (4 : Int32)) &&& (7 : Int32)) * (8 : Int32)) &&& 0x3f).toInt64.toUInt64.toBitVec % 64#64 = BitVec.ofNat 64 (8 * ((P * 4) % 8)) := by decide +kernel
theorem own_law2 (q2 q3 : Int64) (ps : Int32) (hps : 0 ≤ ps.toInt ∧ ps.toInt < 4) : own_sx (own_acc (fun j => own_dat q2 q3 (ps.toNatClampNeg * 4 + j)) 4 4) (32 : Int32) = ((own_x (ps * (4 : Int32)) q2 q3).toInt32).toInt64 := by
  obtain ⟨P, hP, e, e'⟩ := own_ofN (m := 4) hps
  rw [e', e]
  obtain ⟨h1, h2⟩ := own_xs2 P hP
  have hx : (own_x (Int32.ofNat P * (4 : Int32)) q2 q3).toBitVec.toNat = (if P * 4 < 8 then q2 else q3).toBitVec.toNat / 2 ^ (8 * ((P * 4) % 8)) := by
    unfold own_x
    rw [own_ush _ _ (8 * ((P * 4) % 8)) (by omega) h2]
    unfold own_src
    by_cases h : P * 4 < 8
    · rw [if_pos h, if_pos (h1.mpr h)]
    · rw [if_neg h, if_neg (fun q => h (h1.mp q))]
  apply Int64.toInt_inj.mp
  have hb := own_hb q2 q3 (P * 4) ((P * 4) % 8) 4 (by omega) (fun j hj => by omega)
  have hf := own_fin (fun j => own_dat q2 q3 (P * 4 + j)) 4 _ (by decide) (by decide) hb
  refine Eq.trans hf ?_
  rw [Int32.toInt_toInt64, Int64.toInt_toInt32, ← own_toI _ _ hx _ (by decide)]
theorem own_xs3 : ∀ P : Nat, P < 2 → ((Int32.ofNat P * (8 : Int32)) < (8 : Int32) ↔ P * 8 < 8) ∧ ((((Int32.ofNat P * (8 : Int32)) &&& (7 : Int32)) * (8 : Int32)) &&& 0x3f).toInt64.toUInt64.toBitVec % 64#64 = BitVec.ofNat 64 (8 * ((P * 8) % 8)) := by decide +kernel
theorem own_law3 (q2 q3 : Int64) (ps : Int32) (hps : 0 ≤ ps.toInt ∧ ps.toInt < 2) : own_sx (own_acc (fun j => own_dat q2 q3 (ps.toNatClampNeg * 8 + j)) 8 8) (0 : Int32) = own_x (ps * (8 : Int32)) q2 q3 := by
  obtain ⟨P, hP, e, e'⟩ := own_ofN (m := 2) hps
  rw [e', e]
  obtain ⟨h1, h2⟩ := own_xs3 P hP
  have hx : (own_x (Int32.ofNat P * (8 : Int32)) q2 q3).toBitVec.toNat = (if P * 8 < 8 then q2 else q3).toBitVec.toNat / 2 ^ (8 * ((P * 8) % 8)) := by
    unfold own_x
    rw [own_ush _ _ (8 * ((P * 8) % 8)) (by omega) h2]
    unfold own_src
    by_cases h : P * 8 < 8
    · rw [if_pos h, if_pos (h1.mpr h)]
    · rw [if_neg h, if_neg (fun q => h (h1.mp q))]
  apply Int64.toInt_inj.mp
  have hb := own_hb q2 q3 (P * 8) ((P * 8) % 8) 8 (by omega) (fun j hj => by omega)
  have hf := own_fin (fun j => own_dat q2 q3 (P * 8 + j)) 8 _ (by decide) (by decide) hb
  refine Eq.trans hf ?_
  rw [← own_toI _ _ hx _ (by decide)]
  have h3 := (own_x (Int32.ofNat P * (8 : Int32)) q2 q3).toInt_lt
  have h4 := (own_x (Int32.ofNat P * (8 : Int32)) q2 q3).le_toInt
  rw [Int.bmod_def]; generalize (own_x (Int32.ofNat P * (8 : Int32)) q2 q3).toInt = z at *; split <;> omega
theorem pd_1 : parseMethodDescriptor "([BIJ)V" = some ⟨[(.array .byte), .int, .long], none⟩ := by decide +kernel
theorem pd_2 : parseMethodDescriptor "(II[B)V" = some ⟨[.int, .int, (.array .byte)], none⟩ := by decide +kernel
theorem pd_3 : parseMethodDescriptor "(I)J" = some ⟨[.int], some .long⟩ := by decide +kernel
theorem ef_rm0 (m : MethodId) (x0 : Int32) (x1 : Int64) (x2 : Int64) (x3 : Int32) (x4 : Int32) : entryFrame m #[(.int x0), (.long x1), (.long x2), (.int x3), (.int x4)] maxLocals = mkF m 0 #[.val (.int x0), .val (.long x1), .second, .val (.long x2), .second, .val (.int x3), .val (.int x4), .unset, .unset, .unset, .unset, .unset, .unset, .unset, .unset, .unset, .unset, .unset, .unset, .unset, .unset, .unset] [] := by first | (simp [entryFrame, mkF, argsToLocals, Value.category, maxLocals]; done) | rfl
def Q_rm0 (Z : State) (p1 : Int32) (q2 : Int64) (q3 : Int64) (p4 : Int32) (p5 : Int32)  (h0 : Heap) (n0 : Nat) (v : Option Value) (h : Heap) (L : List Loc) : Prop := v = some (.int (1 : Int32)) ∧ Fr n0 L
set_option maxRecDepth 65536 in
set_option maxHeartbeats 40000000 in
theorem rm0 (l : Launch) (Z : State) (a0 : Array Value) (hw : ∀ d ∈ tables_1, d.before a0 Z = true) (ws : List Jvm.Cond) (p1 : Int32) (q2 : Int64) (q3 : Int64) (p4 : Int32) (p5 : Int32)  (h0 : Heap) (n0 : Nat) (Z0 : n0 ≤ h0.size)  :
    MetFree l x (head1 (Jvm.Cond.code x code maxLocals ret :: ws) room_1) (fun a U => a = #[(.int p1), (.long q2), (.long q3), (.int p4), (.int p5)] ∧ Z.Warmed39 U.vm ∧ U.heap = h0) (fun _ _ _ _ _ => True) (fun _ U o U' => ∃ v L, o = .returned v ∧ Q_rm0 Z p1 q2 q3 p4 p5  h0 n0 v U'.heap L ∧ FrameEnd U o U' L room_1.cells room_1.slots) := by
  refine MetFree.of_bodySF (plainFor_of_name pn_1) hisR ?_
  intro p e s m args below meth c s₁ Bd hml0 hP hK
  obtain ⟨rfl, hZ, hh⟩ := hP
  have hx := Bd.exec
  have hby := Bd.bytes
  have hml : c.maxLocals = 22 := hml0
  have hown : s.vm.findClass "com/example/rigorous_bytecode/rigorousbytecode/dex/ArrayDataPayloadElementPinLaw" = some m.cls := findClass_of_methodNamed Bd.named
  have hnm := (name_of_methodNamed Bd.named Bd.method).1
  have X0 : Stand p l e room_1 s m #[(.int p1), (.long q2), (.long q3), (.int p4), (.int p5)] below meth c s₁ [] 0 0 := Stand.of_body Bd
  have e0 : s₁.heap = h0 := by rw [← hh, Bd.state]; rfl
  have N0 := Fr.nil n0
  have pre0 : ∀ t, Steps p.tables e below (s₁.setTop (mkF m 0 #[.val (.int p1), .val (.long q2), .second, .val (.long q3), .second, .val (.int p4), .val (.int p5), .unset, .unset, .unset, .unset, .unset, .unset, .unset, .unset, .unset, .unset, .unset, .unset, .unset, .unset, .unset] [])) t → Steps p.tables e below (s₁.setTop (entryFrame m #[(.int p1), (.long q2), (.long q3), (.int p4), (.int p5)] maxLocals)) t := fun t k => castTop (ef_rm0 m p1 q2 q3 p4 p5) k
  have R0 : ∀ t, Steps p.tables e below (s₁.setTop (mkF m 0 #[.val (.int p1), .val (.long q2), .second, .val (.long q3), .second, .val (.int p4), .val (.int p5), .unset, .unset, .unset, .unset, .unset, .unset, .unset, .unset, .unset, .unset, .unset, .unset, .unset, .unset, .unset] [])) t → Steps p.tables e below (s₁.setTop (mkF m 0 #[.val (.int p1), .val (.long q2), .second, .val (.long q3), .second, .val (.int p4), .val (.int p5), .unset, .unset, .unset, .unset, .unset, .unset, .unset, .unset, .unset, .unset, .unset, .unset, .unset, .unset, .unset] [])) t := fun _ k => k
  have R316 : ∀ t, Steps p.tables e below (s₁.setTop (mkF m 5 #[.val (.int p1), .val (.long q2), .second, .val (.long q3), .second, .val (.int p4), .val (.int p5), .val (.int (p1 &&& (3 : Int32))), .unset, .unset, .unset, .unset, .unset, .unset, .unset, .unset, .unset, .unset, .unset, .unset, .unset, .unset] [])) t → Steps p.tables e below (s₁.setTop (mkF m 0 #[.val (.int p1), .val (.long q2), .second, .val (.long q3), .second, .val (.int p4), .val (.int p5), .unset, .unset, .unset, .unset, .unset, .unset, .unset, .unset, .unset, .unset, .unset, .unset, .unset, .unset, .unset] [])) t := by
    intro t k
    refine R0 t ?_
    refine XS.iloadN X0.here hx rfl (hb hby at_0) rfl ?_
    refine XS.iconst X0.here hx rfl (hb hby at_1) ?_
    refine XS.iand X0.here hx rfl (hb hby at_2) rfl ?_
    refine XS.istore X0.here hx rfl (hb hby at_3) rfl (l' := #[.val (.int p1), .val (.long q2), .second, .val (.long q3), .second, .val (.int p4), .val (.int p5), .val (.int (p1 &&& (3 : Int32))), .unset, .unset, .unset, .unset, .unset, .unset, .unset, .unset, .unset, .unset, .unset, .unset, .unset, .unset]) rfl ?_
    exact k
  obtain ⟨kk, h_kk⟩ : ∃ z : Int32, z = (p1 &&& (3 : Int32)) := ⟨_, rfl⟩
  have R317 : ∀ t, Steps p.tables e below (s₁.setTop (mkF m 5 #[.val (.int p1), .val (.long q2), .second, .val (.long q3), .second, .val (.int p4), .val (.int p5), .val (.int kk), .unset, .unset, .unset, .unset, .unset, .unset, .unset, .unset, .unset, .unset, .unset, .unset, .unset, .unset] [])) t → Steps p.tables e below (s₁.setTop (mkF m 0 #[.val (.int p1), .val (.long q2), .second, .val (.long q3), .second, .val (.int p4), .val (.int p5), .unset, .unset, .unset, .unset, .unset, .unset, .unset, .unset, .unset, .unset, .unset, .unset, .unset, .unset, .unset] [])) t := by rw [h_kk]; exact R316
  have hkk : kk = (0 : Int32) ∨ kk = (1 : Int32) ∨ kk = (2 : Int32) ∨ kk = (3 : Int32) := by rw [h_kk]; exact own_k p1
  rcases hkk with rfl | rfl | rfl | rfl
  · have R318 : ∀ t, Steps p.tables e below (s₁.setTop (mkF m 26 #[.val (.int p1), .val (.long q2), .second, .val (.long q3), .second, .val (.int p4), .val (.int p5), .val (.int (0 : Int32)), .val (.int (1 : Int32)), .val (.int (16 : Int32)), .unset, .unset, .unset, .unset, .unset, .unset, .unset, .unset, .unset, .unset, .unset, .unset] [(.int ((p4 &&& (2147483647 : Int32)) - ((p4 &&& (2147483647 : Int32)) / (16 : Int32)) * (16 : Int32)))])) t → Steps p.tables e below (s₁.setTop (mkF m 0 #[.val (.int p1), .val (.long q2), .second, .val (.long q3), .second, .val (.int p4), .val (.int p5), .unset, .unset, .unset, .unset, .unset, .unset, .unset, .unset, .unset, .unset, .unset, .unset, .unset, .unset, .unset] [])) t := by
      intro t k
      refine R317 t ?_
      refine XS.iconst X0.here hx rfl (hb hby at_5) ?_
      refine XS.iload X0.here hx rfl (hb hby at_6) rfl ?_
      refine XS.ishl X0.here hx rfl (hb hby at_8) rfl ?_
      refine XS.istore X0.here hx rfl (hb hby at_9) rfl (l' := #[.val (.int p1), .val (.long q2), .second, .val (.long q3), .second, .val (.int p4), .val (.int p5), .val (.int (0 : Int32)), .val (.int (1 : Int32)), .unset, .unset, .unset, .unset, .unset, .unset, .unset, .unset, .unset, .unset, .unset, .unset, .unset]) rfl ?_
      refine XS.bipush X0.here hx rfl (hb hby at_11) ?_
      refine XS.iload X0.here hx rfl (hb hby at_13) rfl ?_
      refine XS.ishr X0.here hx rfl (hb hby at_15) rfl ?_
      refine XS.istore X0.here hx rfl (hb hby at_16) rfl (l' := #[.val (.int p1), .val (.long q2), .second, .val (.long q3), .second, .val (.int p4), .val (.int p5), .val (.int (0 : Int32)), .val (.int (1 : Int32)), .val (.int (16 : Int32)), .unset, .unset, .unset, .unset, .unset, .unset, .unset, .unset, .unset, .unset, .unset, .unset]) rfl ?_
      refine XS.iload X0.here hx rfl (hb hby at_18) rfl ?_
      refine X0.ldcInt hx hown (mvT hZ (hw _ (List.mem_of_getElem? (i := 0) rfl))) (g := (mkF m 20 #[.val (.int p1), .val (.long q2), .second, .val (.long q3), .second, .val (.int p4), .val (.int p5), .val (.int (0 : Int32)), .val (.int (1 : Int32)), .val (.int (16 : Int32)), .unset, .unset, .unset, .unset, .unset, .unset, .unset, .unset, .unset, .unset, .unset, .unset] [(.int p4)])) rfl (hb hby at_20) _ ?_
      refine XS.iand X0.here hx rfl (hb hby at_22) rfl ?_
      refine XS.iload X0.here hx rfl (hb hby at_23) rfl ?_
      refine XS.irem X0.here hx rfl (hb hby at_25) rfl (by decide) ?_
      exact k
    obtain ⟨ps, h_ps⟩ : ∃ z : Int32, z = ((p4 &&& (2147483647 : Int32)) - ((p4 &&& (2147483647 : Int32)) / (16 : Int32)) * (16 : Int32)) := ⟨_, rfl⟩
    have R319 : ∀ t, Steps p.tables e below (s₁.setTop (mkF m 26 #[.val (.int p1), .val (.long q2), .second, .val (.long q3), .second, .val (.int p4), .val (.int p5), .val (.int (0 : Int32)), .val (.int (1 : Int32)), .val (.int (16 : Int32)), .unset, .unset, .unset, .unset, .unset, .unset, .unset, .unset, .unset, .unset, .unset, .unset] [(.int ps)])) t → Steps p.tables e below (s₁.setTop (mkF m 0 #[.val (.int p1), .val (.long q2), .second, .val (.long q3), .second, .val (.int p4), .val (.int p5), .unset, .unset, .unset, .unset, .unset, .unset, .unset, .unset, .unset, .unset, .unset, .unset, .unset, .unset, .unset] [])) t := by rw [h_ps]; exact R318
    have hps : 0 ≤ ps.toInt ∧ ps.toInt < 16 := by rw [h_ps]; exact own_pos0 p4
    have R320 : ∀ t, Steps p.tables e below (s₁.setTop (mkF m 30 #[.val (.int p1), .val (.long q2), .second, .val (.long q3), .second, .val (.int p4), .val (.int p5), .val (.int (0 : Int32)), .val (.int (1 : Int32)), .val (.int (16 : Int32)), .val (.int ps), .unset, .unset, .unset, .unset, .unset, .unset, .unset, .unset, .unset, .unset, .unset] [(.int (16 : Int32))])) t → Steps p.tables e below (s₁.setTop (mkF m 0 #[.val (.int p1), .val (.long q2), .second, .val (.long q3), .second, .val (.int p4), .val (.int p5), .unset, .unset, .unset, .unset, .unset, .unset, .unset, .unset, .unset, .unset, .unset, .unset, .unset, .unset, .unset] [])) t := by
      intro t k
      refine R319 t ?_
      refine XS.istore X0.here hx rfl (hb hby at_26) rfl (l' := #[.val (.int p1), .val (.long q2), .second, .val (.long q3), .second, .val (.int p4), .val (.int p5), .val (.int (0 : Int32)), .val (.int (1 : Int32)), .val (.int (16 : Int32)), .val (.int ps), .unset, .unset, .unset, .unset, .unset, .unset, .unset, .unset, .unset, .unset, .unset]) rfl ?_
      refine XS.bipush X0.here hx rfl (hb hby at_28) ?_
      exact k
    obtain ⟨T321, h321, c321, X321, e321, x321, B321, st321⟩ := newP X0 hx hZ (hw _ (List.mem_of_getElem? (i := 1) rfl)) e0 (g := (mkF m 30 #[.val (.int p1), .val (.long q2), .second, .val (.long q3), .second, .val (.int p4), .val (.int p5), .val (.int (0 : Int32)), .val (.int (1 : Int32)), .val (.int (16 : Int32)), .val (.int ps), .unset, .unset, .unset, .unset, .unset, .unset, .unset, .unset, .unset, .unset, .unset] [(.int (16 : Int32))])) rfl (hb hby at_30) rfl (by decide) (cap := 16) (by decide) (by decide) (by decide) (by decide)
    obtain ⟨t1, g_t1⟩ : ∃ z, z = h0.size := ⟨_, rfl⟩
    rw [← g_t1] at B321 st321
    have n_t1 : n0 ≤ t1 := Nat.le_trans Z0 (Nat.le_of_eq g_t1.symm)
    have Z321 : n0 ≤ h321.size := Nat.le_trans Z0 x321.1
    have V321 : Arv Z h321 t1 c321 .byte (16 : Int32) [(.int (0 : Int32)), (.int (0 : Int32)), (.int (0 : Int32)), (.int (0 : Int32)), (.int (0 : Int32)), (.int (0 : Int32)), (.int (0 : Int32)), (.int (0 : Int32)), (.int (0 : Int32)), (.int (0 : Int32)), (.int (0 : Int32)), (.int (0 : Int32)), (.int (0 : Int32)), (.int (0 : Int32)), (.int (0 : Int32)), (.int (0 : Int32))] (.int (0 : Int32)) := (Arv.new B321 (by decide)).pad (pad_rep [] (.int (0 : Int32)) 16)
    have R322 : ∀ t, Steps p.tables e below (T321.setTop (mkF m 32 #[.val (.int p1), .val (.long q2), .second, .val (.long q3), .second, .val (.int p4), .val (.int p5), .val (.int (0 : Int32)), .val (.int (1 : Int32)), .val (.int (16 : Int32)), .val (.int ps), .unset, .unset, .unset, .unset, .unset, .unset, .unset, .unset, .unset, .unset, .unset] [(.ref t1)])) t → Steps p.tables e below (s₁.setTop (mkF m 0 #[.val (.int p1), .val (.long q2), .second, .val (.long q3), .second, .val (.int p4), .val (.int p5), .unset, .unset, .unset, .unset, .unset, .unset, .unset, .unset, .unset, .unset, .unset, .unset, .unset, .unset, .unset] [])) t := fun t k => R320 t (st321 _ k)
    have R323 : ∀ t, Steps p.tables e below (T321.setTop (mkF m 38 #[.val (.int p1), .val (.long q2), .second, .val (.long q3), .second, .val (.int p4), .val (.int p5), .val (.int (0 : Int32)), .val (.int (1 : Int32)), .val (.int (16 : Int32)), .val (.int ps), .val (.ref t1), .unset, .unset, .unset, .unset, .unset, .unset, .unset, .unset, .unset, .unset] [(.long q2), (.int (0 : Int32)), (.ref t1)])) t → Steps p.tables e below (s₁.setTop (mkF m 0 #[.val (.int p1), .val (.long q2), .second, .val (.long q3), .second, .val (.int p4), .val (.int p5), .unset, .unset, .unset, .unset, .unset, .unset, .unset, .unset, .unset, .unset, .unset, .unset, .unset, .unset, .unset] [])) t := by
      intro t k
      refine R322 t ?_
      refine XS.astore X321.here hx rfl (hb hby at_32) rfl rfl (l' := #[.val (.int p1), .val (.long q2), .second, .val (.long q3), .second, .val (.int p4), .val (.int p5), .val (.int (0 : Int32)), .val (.int (1 : Int32)), .val (.int (16 : Int32)), .val (.int ps), .val (.ref t1), .unset, .unset, .unset, .unset, .unset, .unset, .unset, .unset, .unset, .unset]) rfl ?_
      refine XS.aload X321.here hx rfl (hb hby at_34) rfl rfl ?_
      refine XS.iconst X321.here hx rfl (hb hby at_36) ?_
      refine XS.lloadN X321.here hx rfl (hb hby at_37) rfl ?_
      exact k
    obtain ⟨_, _, ⟨T324, L324, k324, n324⟩, -, X324, ⟨Lc324, hQ324, l324, y324, z324⟩, st324⟩ := Jvm.LawKit.callS X321 hx (y := (⟨"com/example/rigorous_bytecode/rigorousbytecode/dex/ArrayDataPayloadElementPinLaw", "put", "([BIJ)V"⟩ : MethodName)) hown (mvT hZ (hw _ (List.mem_of_getElem? (i := 2) rfl))) (mvT hZ (hw _ (List.mem_of_getElem? (i := 3) rfl))) (mvT hZ (hw _ (List.mem_of_getElem? (i := 4) rfl))) (mvT hZ (hw _ (List.mem_of_getElem? (i := 5) rfl))) (by decide) (backOf (W := 0) (rmp0 l Z a0 hw [] t1 q2 c321  h321 n0 Z321 V321 n_t1) hZ (hw _ (List.mem_of_getElem? (i := 5) rfl)) (hw _ (List.mem_of_getElem? (i := 4) rfl)) (by decide) (by decide)) (g := (mkF m 38 #[.val (.int p1), .val (.long q2), .second, .val (.long q3), .second, .val (.int p4), .val (.int p5), .val (.int (0 : Int32)), .val (.int (1 : Int32)), .val (.int (16 : Int32)), .val (.int ps), .val (.ref t1), .unset, .unset, .unset, .unset, .unset, .unset, .unset, .unset, .unset, .unset] [(.long q2), (.int (0 : Int32)), (.ref t1)])) rfl (by rw [hml]; rfl) (argsL := [(.ref t1), (.int (0 : Int32)), (.long q2)]) (rest := []) (lenOf pd_1 rfl) rfl (by show 2 * 0 + _ ≤ _; exact Nat.le_of_eq rfl) (hb hby at_38) (fun _ _ => ⟨rfl, e321, (by decide : 1 + 0 ≤ _), (by decide : 16 + 0 ≤ _)⟩)
    dsimp only [Pt.U, Pt.locs, Pt.cells, Pt.slots] at X324 l324 y324 z324 st324 hQ324
    subst l324 y324 z324
    obtain ⟨rfl, M324, J324, Vp324⟩ := hQ324
    have Z324 : n0 ≤ T324.heap.size := Nat.le_trans Z321 J324.1
    have N324 := Fr.app N0 M324
    have R325 : ∀ t, Steps p.tables e below (T324.setTop (mkF m 41 #[.val (.int p1), .val (.long q2), .second, .val (.long q3), .second, .val (.int p4), .val (.int p5), .val (.int (0 : Int32)), .val (.int (1 : Int32)), .val (.int (16 : Int32)), .val (.int ps), .val (.ref t1), .unset, .unset, .unset, .unset, .unset, .unset, .unset, .unset, .unset, .unset] [])) t → Steps p.tables e below (s₁.setTop (mkF m 0 #[.val (.int p1), .val (.long q2), .second, .val (.long q3), .second, .val (.int p4), .val (.int p5), .unset, .unset, .unset, .unset, .unset, .unset, .unset, .unset, .unset, .unset, .unset, .unset, .unset, .unset, .unset] [])) t := fun t k => R323 t (st324 _ k)
    have R326 : ∀ t, Steps p.tables e below (T324.setTop (mkF m 46 #[.val (.int p1), .val (.long q2), .second, .val (.long q3), .second, .val (.int p4), .val (.int p5), .val (.int (0 : Int32)), .val (.int (1 : Int32)), .val (.int (16 : Int32)), .val (.int ps), .val (.ref t1), .unset, .unset, .unset, .unset, .unset, .unset, .unset, .unset, .unset, .unset] [(.long q3), (.int (8 : Int32)), (.ref t1)])) t → Steps p.tables e below (s₁.setTop (mkF m 0 #[.val (.int p1), .val (.long q2), .second, .val (.long q3), .second, .val (.int p4), .val (.int p5), .unset, .unset, .unset, .unset, .unset, .unset, .unset, .unset, .unset, .unset, .unset, .unset, .unset, .unset, .unset] [])) t := by
      intro t k
      refine R325 t ?_
      refine XS.aload X324.here hx rfl (hb hby at_41) rfl rfl ?_
      refine XS.bipush X324.here hx rfl (hb hby at_43) ?_
      refine XS.lloadN X324.here hx rfl (hb hby at_45) rfl ?_
      exact k
    obtain ⟨_, _, ⟨T327, L327, k327, n327⟩, -, X327, ⟨Lc327, hQ327, l327, y327, z327⟩, st327⟩ := Jvm.LawKit.callS X324 hx (y := (⟨"com/example/rigorous_bytecode/rigorousbytecode/dex/ArrayDataPayloadElementPinLaw", "put", "([BIJ)V"⟩ : MethodName)) hown (mvT hZ (hw _ (List.mem_of_getElem? (i := 2) rfl))) (mvT hZ (hw _ (List.mem_of_getElem? (i := 3) rfl))) (mvT hZ (hw _ (List.mem_of_getElem? (i := 4) rfl))) (mvT hZ (hw _ (List.mem_of_getElem? (i := 5) rfl))) (by decide) (backOf (W := 0) (rmp8 l Z a0 hw [] t1 q3 c321 (.int (own_b0 q2)) (.int (own_b q2 (8 : Int32))) (.int (own_b q2 (16 : Int32))) (.int (own_b q2 (24 : Int32))) (.int (own_b q2 (32 : Int32))) (.int (own_b q2 (40 : Int32))) (.int (own_b q2 (48 : Int32))) (.int (own_b q2 (56 : Int32))) T324.heap n0 Z324 Vp324 n_t1) hZ (hw _ (List.mem_of_getElem? (i := 5) rfl)) (hw _ (List.mem_of_getElem? (i := 4) rfl)) (by decide) (by decide)) (g := (mkF m 46 #[.val (.int p1), .val (.long q2), .second, .val (.long q3), .second, .val (.int p4), .val (.int p5), .val (.int (0 : Int32)), .val (.int (1 : Int32)), .val (.int (16 : Int32)), .val (.int ps), .val (.ref t1), .unset, .unset, .unset, .unset, .unset, .unset, .unset, .unset, .unset, .unset] [(.long q3), (.int (8 : Int32)), (.ref t1)])) rfl (by rw [hml]; rfl) (argsL := [(.ref t1), (.int (8 : Int32)), (.long q3)]) (rest := []) (lenOf pd_1 rfl) rfl (by show 2 * 0 + _ ≤ _; exact Nat.le_of_eq rfl) (hb hby at_46) (fun _ _ => ⟨rfl, rfl, (by decide : 1 + 0 ≤ _), (by decide : 16 + 0 ≤ _)⟩)
    dsimp only [Pt.U, Pt.locs, Pt.cells, Pt.slots] at X327 l327 y327 z327 st327 hQ327
    subst l327 y327 z327
    obtain ⟨rfl, M327, J327, Vp327⟩ := hQ327
    have Z327 : n0 ≤ T327.heap.size := Nat.le_trans Z324 J327.1
    have N327 := Fr.app N324 M327
    have R328 : ∀ t, Steps p.tables e below (T327.setTop (mkF m 49 #[.val (.int p1), .val (.long q2), .second, .val (.long q3), .second, .val (.int p4), .val (.int p5), .val (.int (0 : Int32)), .val (.int (1 : Int32)), .val (.int (16 : Int32)), .val (.int ps), .val (.ref t1), .unset, .unset, .unset, .unset, .unset, .unset, .unset, .unset, .unset, .unset] [])) t → Steps p.tables e below (s₁.setTop (mkF m 0 #[.val (.int p1), .val (.long q2), .second, .val (.long q3), .second, .val (.int p4), .val (.int p5), .unset, .unset, .unset, .unset, .unset, .unset, .unset, .unset, .unset, .unset, .unset, .unset, .unset, .unset, .unset] [])) t := fun t k => R326 t (st327 _ k)
    obtain ⟨T329, h329, X329, e329, x329, A329, D329, -, st329⟩ := newO X327 hx hZ hown (hw _ (List.mem_of_getElem? (i := 6) rfl)) (hw _ (List.mem_of_getElem? (i := 7) rfl)) (hw _ (List.mem_of_getElem? (i := 8) rfl)) rfl (g := (mkF m 49 #[.val (.int p1), .val (.long q2), .second, .val (.long q3), .second, .val (.int p4), .val (.int p5), .val (.int (0 : Int32)), .val (.int (1 : Int32)), .val (.int (16 : Int32)), .val (.int ps), .val (.ref t1), .unset, .unset, .unset, .unset, .unset, .unset, .unset, .unset, .unset, .unset] [])) rfl (hb hby at_49) (by decide) (by decide)
    obtain ⟨b1, g_b1⟩ : ∃ z, z = T327.heap.size := ⟨_, rfl⟩
    rw [← g_b1] at A329 D329 st329
    have ne_t1_b1 : t1 ≠ b1 := Nat.ne_of_lt (Nat.lt_of_lt_of_eq Vp327.lt g_b1.symm)
    have n_b1 : n0 ≤ b1 := Nat.le_trans Z327 (Nat.le_of_eq g_b1.symm)
    have Z329 : n0 ≤ h329.size := Nat.le_trans Z327 x329.1
    have A_330 : Arv Z h329 t1 c321 .byte (16 : Int32) [(.int (own_b0 q2)), (.int (own_b q2 (8 : Int32))), (.int (own_b q2 (16 : Int32))), (.int (own_b q2 (24 : Int32))), (.int (own_b q2 (32 : Int32))), (.int (own_b q2 (40 : Int32))), (.int (own_b q2 (48 : Int32))), (.int (own_b q2 (56 : Int32))), (.int (own_b0 q3)), (.int (own_b q3 (8 : Int32))), (.int (own_b q3 (16 : Int32))), (.int (own_b q3 (24 : Int32))), (.int (own_b q3 (32 : Int32))), (.int (own_b q3 (40 : Int32))), (.int (own_b q3 (48 : Int32))), (.int (own_b q3 (56 : Int32)))] (.int (0 : Int32)) := Vp327.ext x329
    have F_331 : Fld Z h329 b1 "com/example/rigorous_bytecode/rigorousbytecode/dex/ArrayDataPayload" "offset" "I" (.int (0 : Int32)) := D329 (Or.inr (hw _ (List.mem_of_getElem? (i := 21) rfl))) (ty := .int) (by decide)
    have F_332 : Fld Z h329 b1 "com/example/rigorous_bytecode/rigorousbytecode/dex/ArrayDataPayload" "elementWidth" "I" (.int (0 : Int32)) := D329 (Or.inr (hw _ (List.mem_of_getElem? (i := 23) rfl))) (ty := .int) (by decide)
    have F_333 : Fld Z h329 b1 "com/example/rigorous_bytecode/rigorousbytecode/dex/ArrayDataPayload" "data" "[B" .null := D329 (Or.inr (hw _ (List.mem_of_getElem? (i := 25) rfl))) (ty := (.array .byte)) (by decide)
    have R334 : ∀ t, Steps p.tables e below (T329.setTop (mkF m 52 #[.val (.int p1), .val (.long q2), .second, .val (.long q3), .second, .val (.int p4), .val (.int p5), .val (.int (0 : Int32)), .val (.int (1 : Int32)), .val (.int (16 : Int32)), .val (.int ps), .val (.ref t1), .unset, .unset, .unset, .unset, .unset, .unset, .unset, .unset, .unset, .unset] [(.ref b1)])) t → Steps p.tables e below (s₁.setTop (mkF m 0 #[.val (.int p1), .val (.long q2), .second, .val (.long q3), .second, .val (.int p4), .val (.int p5), .unset, .unset, .unset, .unset, .unset, .unset, .unset, .unset, .unset, .unset, .unset, .unset, .unset, .unset, .unset] [])) t := fun t k => R328 t (st329 _ k)
    have R335 : ∀ t, Steps p.tables e below (T329.setTop (mkF m 59 #[.val (.int p1), .val (.long q2), .second, .val (.long q3), .second, .val (.int p4), .val (.int p5), .val (.int (0 : Int32)), .val (.int (1 : Int32)), .val (.int (16 : Int32)), .val (.int ps), .val (.ref t1), .unset, .unset, .unset, .unset, .unset, .unset, .unset, .unset, .unset, .unset] [(.ref t1), (.int (1 : Int32)), (.int p5), (.ref b1), (.ref b1)])) t → Steps p.tables e below (s₁.setTop (mkF m 0 #[.val (.int p1), .val (.long q2), .second, .val (.long q3), .second, .val (.int p4), .val (.int p5), .unset, .unset, .unset, .unset, .unset, .unset, .unset, .unset, .unset, .unset, .unset, .unset, .unset, .unset, .unset] [])) t := by
      intro t k
      refine R334 t ?_
      refine XS.dup X329.here hx rfl (hb hby at_52) rfl rfl ?_
      refine XS.iload X329.here hx rfl (hb hby at_53) rfl ?_
      refine XS.iload X329.here hx rfl (hb hby at_55) rfl ?_
      refine XS.aload X329.here hx rfl (hb hby at_57) rfl rfl ?_
      exact k
    obtain ⟨_, _, ⟨T336, L336, k336, n336⟩, -, X336, ⟨Lc336, hQ336, l336, y336, z336⟩, st336⟩ := X329.specialBack hx (y := (⟨"com/example/rigorous_bytecode/rigorousbytecode/dex/ArrayDataPayload", "<init>", "(II[B)V"⟩ : MethodName)) rfl hown (mvT hZ (hw _ (List.mem_of_getElem? (i := 9) rfl))) (mvT hZ (hw _ (List.mem_of_getElem? (i := 10) rfl))) (mvT hZ (hw _ (List.mem_of_getElem? (i := 11) rfl))) (by decide) (backOf (W := 1) (rm2 l Z a0 hw [] b1 p5 (1 : Int32) t1 (.int (0 : Int32)) (.int (0 : Int32)) .null h329 n0 Z329 A329 F_331 F_332 F_333 n_b1) hZ (hw _ (List.mem_of_getElem? (i := 11) rfl)) (hw _ (List.mem_of_getElem? (i := 8) rfl)) (by decide) (by decide)) (g := (mkF m 59 #[.val (.int p1), .val (.long q2), .second, .val (.long q3), .second, .val (.int p4), .val (.int p5), .val (.int (0 : Int32)), .val (.int (1 : Int32)), .val (.int (16 : Int32)), .val (.int ps), .val (.ref t1), .unset, .unset, .unset, .unset, .unset, .unset, .unset, .unset, .unset, .unset] [(.ref t1), (.int (1 : Int32)), (.int p5), (.ref b1), (.ref b1)])) rfl (by rw [hml]; rfl) (Steps.refl _) (a := b1) (argsL := [(.int p5), (.int (1 : Int32)), (.ref t1)]) (rest := [(.ref b1)]) (lenOf pd_2 rfl) rfl (by show 2 * 0 + _ ≤ _; exact Nat.le_of_eq rfl) (hb hby at_59) (fun _ _ => ⟨rfl, e329, (by decide : 2 + 0 ≤ _), (by decide : 19 + 0 ≤ _)⟩)
    dsimp only [Pt.U, Pt.locs, Pt.cells, Pt.slots] at X336 l336 y336 z336 st336 hQ336
    subst l336 y336 z336
    obtain ⟨rfl, M336, J336, Fa336, Fb336⟩ := hQ336
    have Z336 : n0 ≤ T336.heap.size := Nat.le_trans Z329 J336.1
    have A_337 : Arv Z T336.heap t1 c321 .byte (16 : Int32) [(.int (own_b0 q2)), (.int (own_b q2 (8 : Int32))), (.int (own_b q2 (16 : Int32))), (.int (own_b q2 (24 : Int32))), (.int (own_b q2 (32 : Int32))), (.int (own_b q2 (40 : Int32))), (.int (own_b q2 (48 : Int32))), (.int (own_b q2 (56 : Int32))), (.int (own_b0 q3)), (.int (own_b q3 (8 : Int32))), (.int (own_b q3 (16 : Int32))), (.int (own_b q3 (24 : Int32))), (.int (own_b q3 (32 : Int32))), (.int (own_b q3 (40 : Int32))), (.int (own_b q3 (48 : Int32))), (.int (own_b q3 (56 : Int32)))] (.int (0 : Int32)) := A_330.keep J336 (ninS ne_t1_b1 nin0)
    have E_338 : Exa Z T336.heap b1 "com/example/rigorous_bytecode/rigorousbytecode/dex/ArrayDataPayload" := A329.keep J336
    have N336 := Fr.app N327 M336
    have R339 : ∀ t, Steps p.tables e below (T336.setTop (mkF m 62 #[.val (.int p1), .val (.long q2), .second, .val (.long q3), .second, .val (.int p4), .val (.int p5), .val (.int (0 : Int32)), .val (.int (1 : Int32)), .val (.int (16 : Int32)), .val (.int ps), .val (.ref t1), .unset, .unset, .unset, .unset, .unset, .unset, .unset, .unset, .unset, .unset] [(.ref b1)])) t → Steps p.tables e below (s₁.setTop (mkF m 0 #[.val (.int p1), .val (.long q2), .second, .val (.long q3), .second, .val (.int p4), .val (.int p5), .unset, .unset, .unset, .unset, .unset, .unset, .unset, .unset, .unset, .unset, .unset, .unset, .unset, .unset, .unset] [])) t := fun t k => R335 t (st336.trans k)
    have R340 : ∀ t, Steps p.tables e below (T336.setTop (mkF m 68 #[.val (.int p1), .val (.long q2), .second, .val (.long q3), .second, .val (.int p4), .val (.int p5), .val (.int (0 : Int32)), .val (.int (1 : Int32)), .val (.int (16 : Int32)), .val (.int ps), .val (.ref t1), .val (.ref b1), .unset, .unset, .unset, .unset, .unset, .unset, .unset, .unset, .unset] [(.int ps), (.ref b1)])) t → Steps p.tables e below (s₁.setTop (mkF m 0 #[.val (.int p1), .val (.long q2), .second, .val (.long q3), .second, .val (.int p4), .val (.int p5), .unset, .unset, .unset, .unset, .unset, .unset, .unset, .unset, .unset, .unset, .unset, .unset, .unset, .unset, .unset] [])) t := by
      intro t k
      refine R339 t ?_
      refine XS.astore X336.here hx rfl (hb hby at_62) rfl rfl (l' := #[.val (.int p1), .val (.long q2), .second, .val (.long q3), .second, .val (.int p4), .val (.int p5), .val (.int (0 : Int32)), .val (.int (1 : Int32)), .val (.int (16 : Int32)), .val (.int ps), .val (.ref t1), .val (.ref b1), .unset, .unset, .unset, .unset, .unset, .unset, .unset, .unset, .unset]) rfl ?_
      refine XS.aload X336.here hx rfl (hb hby at_64) rfl rfl ?_
      refine XS.iload X336.here hx rfl (hb hby at_66) rfl ?_
      exact k
    obtain ⟨_, _, q342a, q342b, q342c⟩ := isOf hZ rfl E_338
    obtain ⟨_, _, ⟨T341, L341, k341, n341⟩, -, X341, ⟨Lc341, hQ341, l341, y341, z341⟩, st341⟩ := X336.virtualBack hx (y := (⟨"com/example/rigorous_bytecode/rigorousbytecode/dex/ArrayDataPayload", "element", "(I)J"⟩ : MethodName)) (z := (⟨"com/example/rigorous_bytecode/rigorousbytecode/dex/ArrayDataPayload", "element", "(I)J"⟩ : MethodName)) hown (mvT hZ (hw _ (List.mem_of_getElem? (i := 26) rfl))) (mvT hZ (hw _ (List.mem_of_getElem? (i := 27) rfl))) (notFace_of_selects (args := #[]) (mvT hZ (hw _ (List.mem_of_getElem? (i := 29) rfl)))) (mvT hZ (hw _ (List.mem_of_getElem? (i := 29) rfl))) (mvT hZ (hw _ (List.mem_of_getElem? (i := 28) rfl))) (by decide) (backOf (W := 0) (rme1 l Z a0 hw [] b1 ps t1 c321 (own_vs q2 q3) (fun j => own_dat q2 q3 (ps.toNatClampNeg * 1 + j)) T336.heap n0 Z336 Fa336 Fb336 A_337 (own_hg0 q2 q3 ps hps)) hZ (hw _ (List.mem_of_getElem? (i := 30) rfl)) (hw _ (List.mem_of_getElem? (i := 8) rfl)) (by decide) (by decide)) q342a q342c (g := (mkF m 68 #[.val (.int p1), .val (.long q2), .second, .val (.long q3), .second, .val (.int p4), .val (.int p5), .val (.int (0 : Int32)), .val (.int (1 : Int32)), .val (.int (16 : Int32)), .val (.int ps), .val (.ref t1), .val (.ref b1), .unset, .unset, .unset, .unset, .unset, .unset, .unset, .unset, .unset] [(.int ps), (.ref b1)])) rfl (by rw [hml]; rfl) (Steps.refl _) (argsL := [(.int ps)]) (rest := []) (lenOf pd_3 rfl) rfl (by show 2 * 0 + _ ≤ _; exact Nat.le_of_eq rfl) (hb hby at_68) (fun _ _ => ⟨rfl, rfl, (by decide : 2 + 0 ≤ _), (by decide : 19 + 0 ≤ _)⟩)
    dsimp only [Pt.U, Pt.locs, Pt.cells, Pt.slots] at X341 l341 y341 z341 st341 hQ341
    subst l341 y341 z341
    obtain ⟨rfl, M341, e341⟩ := hQ341
    have N341 := Fr.app N336 M341
    have R343 : ∀ t, Steps p.tables e below (T341.setTop (mkF m 71 #[.val (.int p1), .val (.long q2), .second, .val (.long q3), .second, .val (.int p4), .val (.int p5), .val (.int (0 : Int32)), .val (.int (1 : Int32)), .val (.int (16 : Int32)), .val (.int ps), .val (.ref t1), .val (.ref b1), .unset, .unset, .unset, .unset, .unset, .unset, .unset, .unset, .unset] [(.long (own_sx (own_acc (fun j => own_dat q2 q3 (ps.toNatClampNeg * 1 + j)) 1 1) (56 : Int32)))])) t → Steps p.tables e below (s₁.setTop (mkF m 0 #[.val (.int p1), .val (.long q2), .second, .val (.long q3), .second, .val (.int p4), .val (.int p5), .unset, .unset, .unset, .unset, .unset, .unset, .unset, .unset, .unset, .unset, .unset, .unset, .unset, .unset, .unset] [])) t := fun t k => R340 t (st341.trans k)
    have R344 : ∀ t, Steps p.tables e below (T341.setTop (mkF m 84 #[.val (.int p1), .val (.long q2), .second, .val (.long q3), .second, .val (.int p4), .val (.int p5), .val (.int (0 : Int32)), .val (.int (1 : Int32)), .val (.int (16 : Int32)), .val (.int ps), .val (.ref t1), .val (.ref b1), .val (.long (own_sx (own_acc (fun j => own_dat q2 q3 (ps.toNatClampNeg * 1 + j)) 1 1) (56 : Int32))), .second, .val (.int (ps * (1 : Int32))), .unset, .unset, .unset, .unset, .unset, .unset] [(.int (8 : Int32)), (.int (ps * (1 : Int32)))])) t → Steps p.tables e below (s₁.setTop (mkF m 0 #[.val (.int p1), .val (.long q2), .second, .val (.long q3), .second, .val (.int p4), .val (.int p5), .unset, .unset, .unset, .unset, .unset, .unset, .unset, .unset, .unset, .unset, .unset, .unset, .unset, .unset, .unset] [])) t := by
      intro t k
      refine R343 t ?_
      refine XS.lstore X341.here hx rfl (hb hby at_71) rfl (l' := #[.val (.int p1), .val (.long q2), .second, .val (.long q3), .second, .val (.int p4), .val (.int p5), .val (.int (0 : Int32)), .val (.int (1 : Int32)), .val (.int (16 : Int32)), .val (.int ps), .val (.ref t1), .val (.ref b1), .val (.long (own_sx (own_acc (fun j => own_dat q2 q3 (ps.toNatClampNeg * 1 + j)) 1 1) (56 : Int32))), .second, .unset, .unset, .unset, .unset, .unset, .unset, .unset]) rfl ?_
      refine XS.iload X341.here hx rfl (hb hby at_73) rfl ?_
      refine XS.iload X341.here hx rfl (hb hby at_75) rfl ?_
      refine XS.imul X341.here hx rfl (hb hby at_77) rfl ?_
      refine XS.istore X341.here hx rfl (hb hby at_78) rfl (l' := #[.val (.int p1), .val (.long q2), .second, .val (.long q3), .second, .val (.int p4), .val (.int p5), .val (.int (0 : Int32)), .val (.int (1 : Int32)), .val (.int (16 : Int32)), .val (.int ps), .val (.ref t1), .val (.ref b1), .val (.long (own_sx (own_acc (fun j => own_dat q2 q3 (ps.toNatClampNeg * 1 + j)) 1 1) (56 : Int32))), .second, .val (.int (ps * (1 : Int32))), .unset, .unset, .unset, .unset, .unset, .unset]) rfl ?_
      refine XS.iload X341.here hx rfl (hb hby at_80) rfl ?_
      refine XS.bipush X341.here hx rfl (hb hby at_82) ?_
      exact k
    have R345 : ∀ t, Steps p.tables e below (T341.setTop (mkF m 92 #[.val (.int p1), .val (.long q2), .second, .val (.long q3), .second, .val (.int p4), .val (.int p5), .val (.int (0 : Int32)), .val (.int (1 : Int32)), .val (.int (16 : Int32)), .val (.int ps), .val (.ref t1), .val (.ref b1), .val (.long (own_sx (own_acc (fun j => own_dat q2 q3 (ps.toNatClampNeg * 1 + j)) 1 1) (56 : Int32))), .second, .val (.int (ps * (1 : Int32))), .unset, .unset, .unset, .unset, .unset, .unset] [(.long (own_src (ps * (1 : Int32)) q2 q3))])) t → Steps p.tables e below (s₁.setTop (mkF m 0 #[.val (.int p1), .val (.long q2), .second, .val (.long q3), .second, .val (.int p4), .val (.int p5), .unset, .unset, .unset, .unset, .unset, .unset, .unset, .unset, .unset, .unset, .unset, .unset, .unset, .unset, .unset] [])) t := by
      intro t k
      by_cases hd : (ps * (1 : Int32)) < (8 : Int32)
      · rw [show (own_src (ps * (1 : Int32)) q2 q3) = q2 from if_pos hd] at k
        have R346 : ∀ t, Steps p.tables e below (T341.setTop (mkF m 87 #[.val (.int p1), .val (.long q2), .second, .val (.long q3), .second, .val (.int p4), .val (.int p5), .val (.int (0 : Int32)), .val (.int (1 : Int32)), .val (.int (16 : Int32)), .val (.int ps), .val (.ref t1), .val (.ref b1), .val (.long (own_sx (own_acc (fun j => own_dat q2 q3 (ps.toNatClampNeg * 1 + j)) 1 1) (56 : Int32))), .second, .val (.int (ps * (1 : Int32))), .unset, .unset, .unset, .unset, .unset, .unset] [])) t → Steps p.tables e below (s₁.setTop (mkF m 0 #[.val (.int p1), .val (.long q2), .second, .val (.long q3), .second, .val (.int p4), .val (.int p5), .unset, .unset, .unset, .unset, .unset, .unset, .unset, .unset, .unset, .unset, .unset, .unset, .unset, .unset, .unset] [])) t := by
          intro t k
          refine R344 t ?_
          refine XS.icmpNo X341.here hx rfl (hb hby at_84) rfl (tlt hd).2.1 ?_
          exact k
        have R347 : ∀ t, Steps p.tables e below (T341.setTop (mkF m 92 #[.val (.int p1), .val (.long q2), .second, .val (.long q3), .second, .val (.int p4), .val (.int p5), .val (.int (0 : Int32)), .val (.int (1 : Int32)), .val (.int (16 : Int32)), .val (.int ps), .val (.ref t1), .val (.ref b1), .val (.long (own_sx (own_acc (fun j => own_dat q2 q3 (ps.toNatClampNeg * 1 + j)) 1 1) (56 : Int32))), .second, .val (.int (ps * (1 : Int32))), .unset, .unset, .unset, .unset, .unset, .unset] [(.long q2)])) t → Steps p.tables e below (s₁.setTop (mkF m 0 #[.val (.int p1), .val (.long q2), .second, .val (.long q3), .second, .val (.int p4), .val (.int p5), .unset, .unset, .unset, .unset, .unset, .unset, .unset, .unset, .unset, .unset, .unset, .unset, .unset, .unset, .unset] [])) t := by
          intro t k
          refine R346 t ?_
          refine XS.lloadN X341.here hx rfl (hb hby at_87) rfl ?_
          refine XS.goto X341.here hx rfl (pc0 := 88) (pc' := 92) rfl (hb hby at_88) (by decide) (by decide) ?_
          exact k
        exact R347 t k
      · rw [show (own_src (ps * (1 : Int32)) q2 q3) = q3 from if_neg hd] at k
        have R348 : ∀ t, Steps p.tables e below (T341.setTop (mkF m 91 #[.val (.int p1), .val (.long q2), .second, .val (.long q3), .second, .val (.int p4), .val (.int p5), .val (.int (0 : Int32)), .val (.int (1 : Int32)), .val (.int (16 : Int32)), .val (.int ps), .val (.ref t1), .val (.ref b1), .val (.long (own_sx (own_acc (fun j => own_dat q2 q3 (ps.toNatClampNeg * 1 + j)) 1 1) (56 : Int32))), .second, .val (.int (ps * (1 : Int32))), .unset, .unset, .unset, .unset, .unset, .unset] [])) t → Steps p.tables e below (s₁.setTop (mkF m 0 #[.val (.int p1), .val (.long q2), .second, .val (.long q3), .second, .val (.int p4), .val (.int p5), .unset, .unset, .unset, .unset, .unset, .unset, .unset, .unset, .unset, .unset, .unset, .unset, .unset, .unset, .unset] [])) t := by
          intro t k
          refine R344 t ?_
          refine XS.icmpYes X341.here hx rfl (pc0 := 84) (pc' := 91) rfl (hb hby at_84) rfl (flt hd).2.1 (by decide) (by decide) ?_
          exact k
        have R349 : ∀ t, Steps p.tables e below (T341.setTop (mkF m 92 #[.val (.int p1), .val (.long q2), .second, .val (.long q3), .second, .val (.int p4), .val (.int p5), .val (.int (0 : Int32)), .val (.int (1 : Int32)), .val (.int (16 : Int32)), .val (.int ps), .val (.ref t1), .val (.ref b1), .val (.long (own_sx (own_acc (fun j => own_dat q2 q3 (ps.toNatClampNeg * 1 + j)) 1 1) (56 : Int32))), .second, .val (.int (ps * (1 : Int32))), .unset, .unset, .unset, .unset, .unset, .unset] [(.long q3)])) t → Steps p.tables e below (s₁.setTop (mkF m 0 #[.val (.int p1), .val (.long q2), .second, .val (.long q3), .second, .val (.int p4), .val (.int p5), .unset, .unset, .unset, .unset, .unset, .unset, .unset, .unset, .unset, .unset, .unset, .unset, .unset, .unset, .unset] [])) t := by
          intro t k
          refine R348 t ?_
          refine XS.lloadN X341.here hx rfl (hb hby at_91) rfl ?_
          exact k
        exact R349 t k
    have R350 : ∀ t, Steps p.tables e below (T341.setTop (mkF m 110 #[.val (.int p1), .val (.long q2), .second, .val (.long q3), .second, .val (.int p4), .val (.int p5), .val (.int (0 : Int32)), .val (.int (1 : Int32)), .val (.int (16 : Int32)), .val (.int ps), .val (.ref t1), .val (.ref b1), .val (.long (own_sx (own_acc (fun j => own_dat q2 q3 (ps.toNatClampNeg * 1 + j)) 1 1) (56 : Int32))), .second, .val (.int (ps * (1 : Int32))), .val (.long (own_src (ps * (1 : Int32)) q2 q3)), .second, .val (.long (own_x (ps * (1 : Int32)) q2 q3)), .second, .unset, .unset] [(.int (1 : Int32)), (.int (1 : Int32))])) t → Steps p.tables e below (s₁.setTop (mkF m 0 #[.val (.int p1), .val (.long q2), .second, .val (.long q3), .second, .val (.int p4), .val (.int p5), .unset, .unset, .unset, .unset, .unset, .unset, .unset, .unset, .unset, .unset, .unset, .unset, .unset, .unset, .unset] [])) t := by
      intro t k
      refine R345 t ?_
      refine XS.lstore X341.here hx rfl (hb hby at_92) rfl (l' := #[.val (.int p1), .val (.long q2), .second, .val (.long q3), .second, .val (.int p4), .val (.int p5), .val (.int (0 : Int32)), .val (.int (1 : Int32)), .val (.int (16 : Int32)), .val (.int ps), .val (.ref t1), .val (.ref b1), .val (.long (own_sx (own_acc (fun j => own_dat q2 q3 (ps.toNatClampNeg * 1 + j)) 1 1) (56 : Int32))), .second, .val (.int (ps * (1 : Int32))), .val (.long (own_src (ps * (1 : Int32)) q2 q3)), .second, .unset, .unset, .unset, .unset]) rfl ?_
      refine XS.lload X341.here hx rfl (hb hby at_94) rfl ?_
      refine XS.iload X341.here hx rfl (hb hby at_96) rfl ?_
      refine XS.bipush X341.here hx rfl (hb hby at_98) ?_
      refine XS.iand X341.here hx rfl (hb hby at_100) rfl ?_
      refine XS.bipush X341.here hx rfl (hb hby at_101) ?_
      refine XS.imul X341.here hx rfl (hb hby at_103) rfl ?_
      refine XS.lushr X341.here hx rfl (hb hby at_104) rfl ?_
      refine XS.lstore X341.here hx rfl (hb hby at_105) rfl (l' := #[.val (.int p1), .val (.long q2), .second, .val (.long q3), .second, .val (.int p4), .val (.int p5), .val (.int (0 : Int32)), .val (.int (1 : Int32)), .val (.int (16 : Int32)), .val (.int ps), .val (.ref t1), .val (.ref b1), .val (.long (own_sx (own_acc (fun j => own_dat q2 q3 (ps.toNatClampNeg * 1 + j)) 1 1) (56 : Int32))), .second, .val (.int (ps * (1 : Int32))), .val (.long (own_src (ps * (1 : Int32)) q2 q3)), .second, .val (.long (own_x (ps * (1 : Int32)) q2 q3)), .second, .unset, .unset]) rfl ?_
      refine XS.iload X341.here hx rfl (hb hby at_107) rfl ?_
      refine XS.iconst X341.here hx rfl (hb hby at_109) ?_
      exact k
    have R351 : ∀ t, Steps p.tables e below (T341.setTop (mkF m 113 #[.val (.int p1), .val (.long q2), .second, .val (.long q3), .second, .val (.int p4), .val (.int p5), .val (.int (0 : Int32)), .val (.int (1 : Int32)), .val (.int (16 : Int32)), .val (.int ps), .val (.ref t1), .val (.ref b1), .val (.long (own_sx (own_acc (fun j => own_dat q2 q3 (ps.toNatClampNeg * 1 + j)) 1 1) (56 : Int32))), .second, .val (.int (ps * (1 : Int32))), .val (.long (own_src (ps * (1 : Int32)) q2 q3)), .second, .val (.long (own_x (ps * (1 : Int32)) q2 q3)), .second, .unset, .unset] [])) t → Steps p.tables e below (s₁.setTop (mkF m 0 #[.val (.int p1), .val (.long q2), .second, .val (.long q3), .second, .val (.int p4), .val (.int p5), .unset, .unset, .unset, .unset, .unset, .unset, .unset, .unset, .unset, .unset, .unset, .unset, .unset, .unset, .unset] [])) t := by
      intro t k
      refine R350 t ?_
      refine XS.icmpNo X341.here hx rfl (hb hby at_110) rfl (teq rfl).2 ?_
      exact k
    have R352 : ∀ t, Steps p.tables e below (T341.setTop (mkF m 163 #[.val (.int p1), .val (.long q2), .second, .val (.long q3), .second, .val (.int p4), .val (.int p5), .val (.int (0 : Int32)), .val (.int (1 : Int32)), .val (.int (16 : Int32)), .val (.int ps), .val (.ref t1), .val (.ref b1), .val (.long (own_sx (own_acc (fun j => own_dat q2 q3 (ps.toNatClampNeg * 1 + j)) 1 1) (56 : Int32))), .second, .val (.int (ps * (1 : Int32))), .val (.long (own_src (ps * (1 : Int32)) q2 q3)), .second, .val (.long (own_x (ps * (1 : Int32)) q2 q3)), .second, .val (.long (((((((own_x (ps * (1 : Int32)) q2 q3)).toInt32)).toInt8.toInt32)).toInt64)), .second] [(.int (lcmpW (own_sx (own_acc (fun j => own_dat q2 q3 (ps.toNatClampNeg * 1 + j)) 1 1) (56 : Int32)) (((((((own_x (ps * (1 : Int32)) q2 q3)).toInt32)).toInt8.toInt32)).toInt64)))])) t → Steps p.tables e below (s₁.setTop (mkF m 0 #[.val (.int p1), .val (.long q2), .second, .val (.long q3), .second, .val (.int p4), .val (.int p5), .unset, .unset, .unset, .unset, .unset, .unset, .unset, .unset, .unset, .unset, .unset, .unset, .unset, .unset, .unset] [])) t := by
      intro t k
      refine R351 t ?_
      refine XS.lload X341.here hx rfl (hb hby at_113) rfl ?_
      refine XS.l2i X341.here hx rfl (hb hby at_115) rfl ?_
      refine XS.i2b X341.here hx rfl (hb hby at_116) rfl ?_
      refine XS.i2l X341.here hx rfl (hb hby at_117) rfl ?_
      refine XS.lstore X341.here hx rfl (hb hby at_118) rfl (l' := #[.val (.int p1), .val (.long q2), .second, .val (.long q3), .second, .val (.int p4), .val (.int p5), .val (.int (0 : Int32)), .val (.int (1 : Int32)), .val (.int (16 : Int32)), .val (.int ps), .val (.ref t1), .val (.ref b1), .val (.long (own_sx (own_acc (fun j => own_dat q2 q3 (ps.toNatClampNeg * 1 + j)) 1 1) (56 : Int32))), .second, .val (.int (ps * (1 : Int32))), .val (.long (own_src (ps * (1 : Int32)) q2 q3)), .second, .val (.long (own_x (ps * (1 : Int32)) q2 q3)), .second, .val (.long (((((((own_x (ps * (1 : Int32)) q2 q3)).toInt32)).toInt8.toInt32)).toInt64)), .second]) rfl ?_
      refine XS.goto X341.here hx rfl (pc0 := 120) (pc' := 158) rfl (hb hby at_120) (by decide) (by decide) ?_
      refine XS.lload X341.here hx rfl (hb hby at_158) rfl ?_
      refine XS.lload X341.here hx rfl (hb hby at_160) rfl ?_
      refine XS.lcmp X341.here hx rfl (hb hby at_162) rfl ?_
      exact k
    have R353 : ∀ t, Steps p.tables e below (T341.setTop (mkF m 166 #[.val (.int p1), .val (.long q2), .second, .val (.long q3), .second, .val (.int p4), .val (.int p5), .val (.int (0 : Int32)), .val (.int (1 : Int32)), .val (.int (16 : Int32)), .val (.int ps), .val (.ref t1), .val (.ref b1), .val (.long (own_sx (own_acc (fun j => own_dat q2 q3 (ps.toNatClampNeg * 1 + j)) 1 1) (56 : Int32))), .second, .val (.int (ps * (1 : Int32))), .val (.long (own_src (ps * (1 : Int32)) q2 q3)), .second, .val (.long (own_x (ps * (1 : Int32)) q2 q3)), .second, .val (.long (((((((own_x (ps * (1 : Int32)) q2 q3)).toInt32)).toInt8.toInt32)).toInt64)), .second] [])) t → Steps p.tables e below (s₁.setTop (mkF m 0 #[.val (.int p1), .val (.long q2), .second, .val (.long q3), .second, .val (.int p4), .val (.int p5), .unset, .unset, .unset, .unset, .unset, .unset, .unset, .unset, .unset, .unset, .unset, .unset, .unset, .unset, .unset] [])) t := by
      intro t k
      refine R352 t ?_
      refine XS.ifNo X341.here hx rfl (hb hby at_163) rfl ((if0 _ _).trans (teq ((lw_eq _ _).mpr (own_law0 q2 q3 ps hps))).2) ?_
      exact k
    have R354 : ∀ t, Steps p.tables e below (T341.setTop (mkF m 171 #[.val (.int p1), .val (.long q2), .second, .val (.long q3), .second, .val (.int p4), .val (.int p5), .val (.int (0 : Int32)), .val (.int (1 : Int32)), .val (.int (16 : Int32)), .val (.int ps), .val (.ref t1), .val (.ref b1), .val (.long (own_sx (own_acc (fun j => own_dat q2 q3 (ps.toNatClampNeg * 1 + j)) 1 1) (56 : Int32))), .second, .val (.int (ps * (1 : Int32))), .val (.long (own_src (ps * (1 : Int32)) q2 q3)), .second, .val (.long (own_x (ps * (1 : Int32)) q2 q3)), .second, .val (.long (((((((own_x (ps * (1 : Int32)) q2 q3)).toInt32)).toInt8.toInt32)).toInt64)), .second] [(.int (1 : Int32))])) t → Steps p.tables e below (s₁.setTop (mkF m 0 #[.val (.int p1), .val (.long q2), .second, .val (.long q3), .second, .val (.int p4), .val (.int p5), .unset, .unset, .unset, .unset, .unset, .unset, .unset, .unset, .unset, .unset, .unset, .unset, .unset, .unset, .unset] [])) t := by
      intro t k
      refine R353 t ?_
      refine XS.iconst X341.here hx rfl (hb hby at_166) ?_
      refine XS.goto X341.here hx rfl (pc0 := 167) (pc' := 171) rfl (hb hby at_167) (by decide) (by decide) ?_
      exact k
    obtain ⟨fs, hr, hrun, hended, hW, hsame⟩ := X341.leave (v := some (.int (1 : Int32))) (fun h => by rw [Bd.returns] at h; cases h)
    refine ⟨_, _, pre0 _ (R354 _ (retN X341 hx (t := .boolean) Bd.returns (by simp) (hb hby at_171) hr)), hrun, hended, _, _, rfl, ?_, ⟨_, rfl⟩, hW, hsame.mono (by decide) (by decide)⟩
    show Q_rm0 Z p1 q2 q3 p4 p5  h0 n0 _ T341.heap _
    rw [e341]
    exact ⟨rfl, N341⟩
  · have R355 : ∀ t, Steps p.tables e below (s₁.setTop (mkF m 26 #[.val (.int p1), .val (.long q2), .second, .val (.long q3), .second, .val (.int p4), .val (.int p5), .val (.int (1 : Int32)), .val (.int (2 : Int32)), .val (.int (8 : Int32)), .unset, .unset, .unset, .unset, .unset, .unset, .unset, .unset, .unset, .unset, .unset, .unset] [(.int ((p4 &&& (2147483647 : Int32)) - ((p4 &&& (2147483647 : Int32)) / (8 : Int32)) * (8 : Int32)))])) t → Steps p.tables e below (s₁.setTop (mkF m 0 #[.val (.int p1), .val (.long q2), .second, .val (.long q3), .second, .val (.int p4), .val (.int p5), .unset, .unset, .unset, .unset, .unset, .unset, .unset, .unset, .unset, .unset, .unset, .unset, .unset, .unset, .unset] [])) t := by
      intro t k
      refine R317 t ?_
      refine XS.iconst X0.here hx rfl (hb hby at_5) ?_
      refine XS.iload X0.here hx rfl (hb hby at_6) rfl ?_
      refine XS.ishl X0.here hx rfl (hb hby at_8) rfl ?_
      refine XS.istore X0.here hx rfl (hb hby at_9) rfl (l' := #[.val (.int p1), .val (.long q2), .second, .val (.long q3), .second, .val (.int p4), .val (.int p5), .val (.int (1 : Int32)), .val (.int (2 : Int32)), .unset, .unset, .unset, .unset, .unset, .unset, .unset, .unset, .unset, .unset, .unset, .unset, .unset]) rfl ?_
      refine XS.bipush X0.here hx rfl (hb hby at_11) ?_
      refine XS.iload X0.here hx rfl (hb hby at_13) rfl ?_
      refine XS.ishr X0.here hx rfl (hb hby at_15) rfl ?_
      refine XS.istore X0.here hx rfl (hb hby at_16) rfl (l' := #[.val (.int p1), .val (.long q2), .second, .val (.long q3), .second, .val (.int p4), .val (.int p5), .val (.int (1 : Int32)), .val (.int (2 : Int32)), .val (.int (8 : Int32)), .unset, .unset, .unset, .unset, .unset, .unset, .unset, .unset, .unset, .unset, .unset, .unset]) rfl ?_
      refine XS.iload X0.here hx rfl (hb hby at_18) rfl ?_
      refine X0.ldcInt hx hown (mvT hZ (hw _ (List.mem_of_getElem? (i := 0) rfl))) (g := (mkF m 20 #[.val (.int p1), .val (.long q2), .second, .val (.long q3), .second, .val (.int p4), .val (.int p5), .val (.int (1 : Int32)), .val (.int (2 : Int32)), .val (.int (8 : Int32)), .unset, .unset, .unset, .unset, .unset, .unset, .unset, .unset, .unset, .unset, .unset, .unset] [(.int p4)])) rfl (hb hby at_20) _ ?_
      refine XS.iand X0.here hx rfl (hb hby at_22) rfl ?_
      refine XS.iload X0.here hx rfl (hb hby at_23) rfl ?_
      refine XS.irem X0.here hx rfl (hb hby at_25) rfl (by decide) ?_
      exact k
    obtain ⟨ps, h_ps⟩ : ∃ z : Int32, z = ((p4 &&& (2147483647 : Int32)) - ((p4 &&& (2147483647 : Int32)) / (8 : Int32)) * (8 : Int32)) := ⟨_, rfl⟩
    have R356 : ∀ t, Steps p.tables e below (s₁.setTop (mkF m 26 #[.val (.int p1), .val (.long q2), .second, .val (.long q3), .second, .val (.int p4), .val (.int p5), .val (.int (1 : Int32)), .val (.int (2 : Int32)), .val (.int (8 : Int32)), .unset, .unset, .unset, .unset, .unset, .unset, .unset, .unset, .unset, .unset, .unset, .unset] [(.int ps)])) t → Steps p.tables e below (s₁.setTop (mkF m 0 #[.val (.int p1), .val (.long q2), .second, .val (.long q3), .second, .val (.int p4), .val (.int p5), .unset, .unset, .unset, .unset, .unset, .unset, .unset, .unset, .unset, .unset, .unset, .unset, .unset, .unset, .unset] [])) t := by rw [h_ps]; exact R355
    have hps : 0 ≤ ps.toInt ∧ ps.toInt < 8 := by rw [h_ps]; exact own_pos1 p4
    have R357 : ∀ t, Steps p.tables e below (s₁.setTop (mkF m 30 #[.val (.int p1), .val (.long q2), .second, .val (.long q3), .second, .val (.int p4), .val (.int p5), .val (.int (1 : Int32)), .val (.int (2 : Int32)), .val (.int (8 : Int32)), .val (.int ps), .unset, .unset, .unset, .unset, .unset, .unset, .unset, .unset, .unset, .unset, .unset] [(.int (16 : Int32))])) t → Steps p.tables e below (s₁.setTop (mkF m 0 #[.val (.int p1), .val (.long q2), .second, .val (.long q3), .second, .val (.int p4), .val (.int p5), .unset, .unset, .unset, .unset, .unset, .unset, .unset, .unset, .unset, .unset, .unset, .unset, .unset, .unset, .unset] [])) t := by
      intro t k
      refine R356 t ?_
      refine XS.istore X0.here hx rfl (hb hby at_26) rfl (l' := #[.val (.int p1), .val (.long q2), .second, .val (.long q3), .second, .val (.int p4), .val (.int p5), .val (.int (1 : Int32)), .val (.int (2 : Int32)), .val (.int (8 : Int32)), .val (.int ps), .unset, .unset, .unset, .unset, .unset, .unset, .unset, .unset, .unset, .unset, .unset]) rfl ?_
      refine XS.bipush X0.here hx rfl (hb hby at_28) ?_
      exact k
    obtain ⟨T358, h358, c358, X358, e358, x358, B358, st358⟩ := newP X0 hx hZ (hw _ (List.mem_of_getElem? (i := 1) rfl)) e0 (g := (mkF m 30 #[.val (.int p1), .val (.long q2), .second, .val (.long q3), .second, .val (.int p4), .val (.int p5), .val (.int (1 : Int32)), .val (.int (2 : Int32)), .val (.int (8 : Int32)), .val (.int ps), .unset, .unset, .unset, .unset, .unset, .unset, .unset, .unset, .unset, .unset, .unset] [(.int (16 : Int32))])) rfl (hb hby at_30) rfl (by decide) (cap := 16) (by decide) (by decide) (by decide) (by decide)
    obtain ⟨t1, g_t1⟩ : ∃ z, z = h0.size := ⟨_, rfl⟩
    rw [← g_t1] at B358 st358
    have n_t1 : n0 ≤ t1 := Nat.le_trans Z0 (Nat.le_of_eq g_t1.symm)
    have Z358 : n0 ≤ h358.size := Nat.le_trans Z0 x358.1
    have V358 : Arv Z h358 t1 c358 .byte (16 : Int32) [(.int (0 : Int32)), (.int (0 : Int32)), (.int (0 : Int32)), (.int (0 : Int32)), (.int (0 : Int32)), (.int (0 : Int32)), (.int (0 : Int32)), (.int (0 : Int32)), (.int (0 : Int32)), (.int (0 : Int32)), (.int (0 : Int32)), (.int (0 : Int32)), (.int (0 : Int32)), (.int (0 : Int32)), (.int (0 : Int32)), (.int (0 : Int32))] (.int (0 : Int32)) := (Arv.new B358 (by decide)).pad (pad_rep [] (.int (0 : Int32)) 16)
    have R359 : ∀ t, Steps p.tables e below (T358.setTop (mkF m 32 #[.val (.int p1), .val (.long q2), .second, .val (.long q3), .second, .val (.int p4), .val (.int p5), .val (.int (1 : Int32)), .val (.int (2 : Int32)), .val (.int (8 : Int32)), .val (.int ps), .unset, .unset, .unset, .unset, .unset, .unset, .unset, .unset, .unset, .unset, .unset] [(.ref t1)])) t → Steps p.tables e below (s₁.setTop (mkF m 0 #[.val (.int p1), .val (.long q2), .second, .val (.long q3), .second, .val (.int p4), .val (.int p5), .unset, .unset, .unset, .unset, .unset, .unset, .unset, .unset, .unset, .unset, .unset, .unset, .unset, .unset, .unset] [])) t := fun t k => R357 t (st358 _ k)
    have R360 : ∀ t, Steps p.tables e below (T358.setTop (mkF m 38 #[.val (.int p1), .val (.long q2), .second, .val (.long q3), .second, .val (.int p4), .val (.int p5), .val (.int (1 : Int32)), .val (.int (2 : Int32)), .val (.int (8 : Int32)), .val (.int ps), .val (.ref t1), .unset, .unset, .unset, .unset, .unset, .unset, .unset, .unset, .unset, .unset] [(.long q2), (.int (0 : Int32)), (.ref t1)])) t → Steps p.tables e below (s₁.setTop (mkF m 0 #[.val (.int p1), .val (.long q2), .second, .val (.long q3), .second, .val (.int p4), .val (.int p5), .unset, .unset, .unset, .unset, .unset, .unset, .unset, .unset, .unset, .unset, .unset, .unset, .unset, .unset, .unset] [])) t := by
      intro t k
      refine R359 t ?_
      refine XS.astore X358.here hx rfl (hb hby at_32) rfl rfl (l' := #[.val (.int p1), .val (.long q2), .second, .val (.long q3), .second, .val (.int p4), .val (.int p5), .val (.int (1 : Int32)), .val (.int (2 : Int32)), .val (.int (8 : Int32)), .val (.int ps), .val (.ref t1), .unset, .unset, .unset, .unset, .unset, .unset, .unset, .unset, .unset, .unset]) rfl ?_
      refine XS.aload X358.here hx rfl (hb hby at_34) rfl rfl ?_
      refine XS.iconst X358.here hx rfl (hb hby at_36) ?_
      refine XS.lloadN X358.here hx rfl (hb hby at_37) rfl ?_
      exact k
    obtain ⟨_, _, ⟨T361, L361, k361, n361⟩, -, X361, ⟨Lc361, hQ361, l361, y361, z361⟩, st361⟩ := Jvm.LawKit.callS X358 hx (y := (⟨"com/example/rigorous_bytecode/rigorousbytecode/dex/ArrayDataPayloadElementPinLaw", "put", "([BIJ)V"⟩ : MethodName)) hown (mvT hZ (hw _ (List.mem_of_getElem? (i := 2) rfl))) (mvT hZ (hw _ (List.mem_of_getElem? (i := 3) rfl))) (mvT hZ (hw _ (List.mem_of_getElem? (i := 4) rfl))) (mvT hZ (hw _ (List.mem_of_getElem? (i := 5) rfl))) (by decide) (backOf (W := 0) (rmp0 l Z a0 hw [] t1 q2 c358  h358 n0 Z358 V358 n_t1) hZ (hw _ (List.mem_of_getElem? (i := 5) rfl)) (hw _ (List.mem_of_getElem? (i := 4) rfl)) (by decide) (by decide)) (g := (mkF m 38 #[.val (.int p1), .val (.long q2), .second, .val (.long q3), .second, .val (.int p4), .val (.int p5), .val (.int (1 : Int32)), .val (.int (2 : Int32)), .val (.int (8 : Int32)), .val (.int ps), .val (.ref t1), .unset, .unset, .unset, .unset, .unset, .unset, .unset, .unset, .unset, .unset] [(.long q2), (.int (0 : Int32)), (.ref t1)])) rfl (by rw [hml]; rfl) (argsL := [(.ref t1), (.int (0 : Int32)), (.long q2)]) (rest := []) (lenOf pd_1 rfl) rfl (by show 2 * 0 + _ ≤ _; exact Nat.le_of_eq rfl) (hb hby at_38) (fun _ _ => ⟨rfl, e358, (by decide : 1 + 0 ≤ _), (by decide : 16 + 0 ≤ _)⟩)
    dsimp only [Pt.U, Pt.locs, Pt.cells, Pt.slots] at X361 l361 y361 z361 st361 hQ361
    subst l361 y361 z361
    obtain ⟨rfl, M361, J361, Vp361⟩ := hQ361
    have Z361 : n0 ≤ T361.heap.size := Nat.le_trans Z358 J361.1
    have N361 := Fr.app N0 M361
    have R362 : ∀ t, Steps p.tables e below (T361.setTop (mkF m 41 #[.val (.int p1), .val (.long q2), .second, .val (.long q3), .second, .val (.int p4), .val (.int p5), .val (.int (1 : Int32)), .val (.int (2 : Int32)), .val (.int (8 : Int32)), .val (.int ps), .val (.ref t1), .unset, .unset, .unset, .unset, .unset, .unset, .unset, .unset, .unset, .unset] [])) t → Steps p.tables e below (s₁.setTop (mkF m 0 #[.val (.int p1), .val (.long q2), .second, .val (.long q3), .second, .val (.int p4), .val (.int p5), .unset, .unset, .unset, .unset, .unset, .unset, .unset, .unset, .unset, .unset, .unset, .unset, .unset, .unset, .unset] [])) t := fun t k => R360 t (st361 _ k)
    have R363 : ∀ t, Steps p.tables e below (T361.setTop (mkF m 46 #[.val (.int p1), .val (.long q2), .second, .val (.long q3), .second, .val (.int p4), .val (.int p5), .val (.int (1 : Int32)), .val (.int (2 : Int32)), .val (.int (8 : Int32)), .val (.int ps), .val (.ref t1), .unset, .unset, .unset, .unset, .unset, .unset, .unset, .unset, .unset, .unset] [(.long q3), (.int (8 : Int32)), (.ref t1)])) t → Steps p.tables e below (s₁.setTop (mkF m 0 #[.val (.int p1), .val (.long q2), .second, .val (.long q3), .second, .val (.int p4), .val (.int p5), .unset, .unset, .unset, .unset, .unset, .unset, .unset, .unset, .unset, .unset, .unset, .unset, .unset, .unset, .unset] [])) t := by
      intro t k
      refine R362 t ?_
      refine XS.aload X361.here hx rfl (hb hby at_41) rfl rfl ?_
      refine XS.bipush X361.here hx rfl (hb hby at_43) ?_
      refine XS.lloadN X361.here hx rfl (hb hby at_45) rfl ?_
      exact k
    obtain ⟨_, _, ⟨T364, L364, k364, n364⟩, -, X364, ⟨Lc364, hQ364, l364, y364, z364⟩, st364⟩ := Jvm.LawKit.callS X361 hx (y := (⟨"com/example/rigorous_bytecode/rigorousbytecode/dex/ArrayDataPayloadElementPinLaw", "put", "([BIJ)V"⟩ : MethodName)) hown (mvT hZ (hw _ (List.mem_of_getElem? (i := 2) rfl))) (mvT hZ (hw _ (List.mem_of_getElem? (i := 3) rfl))) (mvT hZ (hw _ (List.mem_of_getElem? (i := 4) rfl))) (mvT hZ (hw _ (List.mem_of_getElem? (i := 5) rfl))) (by decide) (backOf (W := 0) (rmp8 l Z a0 hw [] t1 q3 c358 (.int (own_b0 q2)) (.int (own_b q2 (8 : Int32))) (.int (own_b q2 (16 : Int32))) (.int (own_b q2 (24 : Int32))) (.int (own_b q2 (32 : Int32))) (.int (own_b q2 (40 : Int32))) (.int (own_b q2 (48 : Int32))) (.int (own_b q2 (56 : Int32))) T361.heap n0 Z361 Vp361 n_t1) hZ (hw _ (List.mem_of_getElem? (i := 5) rfl)) (hw _ (List.mem_of_getElem? (i := 4) rfl)) (by decide) (by decide)) (g := (mkF m 46 #[.val (.int p1), .val (.long q2), .second, .val (.long q3), .second, .val (.int p4), .val (.int p5), .val (.int (1 : Int32)), .val (.int (2 : Int32)), .val (.int (8 : Int32)), .val (.int ps), .val (.ref t1), .unset, .unset, .unset, .unset, .unset, .unset, .unset, .unset, .unset, .unset] [(.long q3), (.int (8 : Int32)), (.ref t1)])) rfl (by rw [hml]; rfl) (argsL := [(.ref t1), (.int (8 : Int32)), (.long q3)]) (rest := []) (lenOf pd_1 rfl) rfl (by show 2 * 0 + _ ≤ _; exact Nat.le_of_eq rfl) (hb hby at_46) (fun _ _ => ⟨rfl, rfl, (by decide : 1 + 0 ≤ _), (by decide : 16 + 0 ≤ _)⟩)
    dsimp only [Pt.U, Pt.locs, Pt.cells, Pt.slots] at X364 l364 y364 z364 st364 hQ364
    subst l364 y364 z364
    obtain ⟨rfl, M364, J364, Vp364⟩ := hQ364
    have Z364 : n0 ≤ T364.heap.size := Nat.le_trans Z361 J364.1
    have N364 := Fr.app N361 M364
    have R365 : ∀ t, Steps p.tables e below (T364.setTop (mkF m 49 #[.val (.int p1), .val (.long q2), .second, .val (.long q3), .second, .val (.int p4), .val (.int p5), .val (.int (1 : Int32)), .val (.int (2 : Int32)), .val (.int (8 : Int32)), .val (.int ps), .val (.ref t1), .unset, .unset, .unset, .unset, .unset, .unset, .unset, .unset, .unset, .unset] [])) t → Steps p.tables e below (s₁.setTop (mkF m 0 #[.val (.int p1), .val (.long q2), .second, .val (.long q3), .second, .val (.int p4), .val (.int p5), .unset, .unset, .unset, .unset, .unset, .unset, .unset, .unset, .unset, .unset, .unset, .unset, .unset, .unset, .unset] [])) t := fun t k => R363 t (st364 _ k)
    obtain ⟨T366, h366, X366, e366, x366, A366, D366, -, st366⟩ := newO X364 hx hZ hown (hw _ (List.mem_of_getElem? (i := 6) rfl)) (hw _ (List.mem_of_getElem? (i := 7) rfl)) (hw _ (List.mem_of_getElem? (i := 8) rfl)) rfl (g := (mkF m 49 #[.val (.int p1), .val (.long q2), .second, .val (.long q3), .second, .val (.int p4), .val (.int p5), .val (.int (1 : Int32)), .val (.int (2 : Int32)), .val (.int (8 : Int32)), .val (.int ps), .val (.ref t1), .unset, .unset, .unset, .unset, .unset, .unset, .unset, .unset, .unset, .unset] [])) rfl (hb hby at_49) (by decide) (by decide)
    obtain ⟨b1, g_b1⟩ : ∃ z, z = T364.heap.size := ⟨_, rfl⟩
    rw [← g_b1] at A366 D366 st366
    have ne_t1_b1 : t1 ≠ b1 := Nat.ne_of_lt (Nat.lt_of_lt_of_eq Vp364.lt g_b1.symm)
    have n_b1 : n0 ≤ b1 := Nat.le_trans Z364 (Nat.le_of_eq g_b1.symm)
    have Z366 : n0 ≤ h366.size := Nat.le_trans Z364 x366.1
    have A_367 : Arv Z h366 t1 c358 .byte (16 : Int32) [(.int (own_b0 q2)), (.int (own_b q2 (8 : Int32))), (.int (own_b q2 (16 : Int32))), (.int (own_b q2 (24 : Int32))), (.int (own_b q2 (32 : Int32))), (.int (own_b q2 (40 : Int32))), (.int (own_b q2 (48 : Int32))), (.int (own_b q2 (56 : Int32))), (.int (own_b0 q3)), (.int (own_b q3 (8 : Int32))), (.int (own_b q3 (16 : Int32))), (.int (own_b q3 (24 : Int32))), (.int (own_b q3 (32 : Int32))), (.int (own_b q3 (40 : Int32))), (.int (own_b q3 (48 : Int32))), (.int (own_b q3 (56 : Int32)))] (.int (0 : Int32)) := Vp364.ext x366
    have F_368 : Fld Z h366 b1 "com/example/rigorous_bytecode/rigorousbytecode/dex/ArrayDataPayload" "offset" "I" (.int (0 : Int32)) := D366 (Or.inr (hw _ (List.mem_of_getElem? (i := 21) rfl))) (ty := .int) (by decide)
    have F_369 : Fld Z h366 b1 "com/example/rigorous_bytecode/rigorousbytecode/dex/ArrayDataPayload" "elementWidth" "I" (.int (0 : Int32)) := D366 (Or.inr (hw _ (List.mem_of_getElem? (i := 23) rfl))) (ty := .int) (by decide)
    have F_370 : Fld Z h366 b1 "com/example/rigorous_bytecode/rigorousbytecode/dex/ArrayDataPayload" "data" "[B" .null := D366 (Or.inr (hw _ (List.mem_of_getElem? (i := 25) rfl))) (ty := (.array .byte)) (by decide)
    have R371 : ∀ t, Steps p.tables e below (T366.setTop (mkF m 52 #[.val (.int p1), .val (.long q2), .second, .val (.long q3), .second, .val (.int p4), .val (.int p5), .val (.int (1 : Int32)), .val (.int (2 : Int32)), .val (.int (8 : Int32)), .val (.int ps), .val (.ref t1), .unset, .unset, .unset, .unset, .unset, .unset, .unset, .unset, .unset, .unset] [(.ref b1)])) t → Steps p.tables e below (s₁.setTop (mkF m 0 #[.val (.int p1), .val (.long q2), .second, .val (.long q3), .second, .val (.int p4), .val (.int p5), .unset, .unset, .unset, .unset, .unset, .unset, .unset, .unset, .unset, .unset, .unset, .unset, .unset, .unset, .unset] [])) t := fun t k => R365 t (st366 _ k)
    have R372 : ∀ t, Steps p.tables e below (T366.setTop (mkF m 59 #[.val (.int p1), .val (.long q2), .second, .val (.long q3), .second, .val (.int p4), .val (.int p5), .val (.int (1 : Int32)), .val (.int (2 : Int32)), .val (.int (8 : Int32)), .val (.int ps), .val (.ref t1), .unset, .unset, .unset, .unset, .unset, .unset, .unset, .unset, .unset, .unset] [(.ref t1), (.int (2 : Int32)), (.int p5), (.ref b1), (.ref b1)])) t → Steps p.tables e below (s₁.setTop (mkF m 0 #[.val (.int p1), .val (.long q2), .second, .val (.long q3), .second, .val (.int p4), .val (.int p5), .unset, .unset, .unset, .unset, .unset, .unset, .unset, .unset, .unset, .unset, .unset, .unset, .unset, .unset, .unset] [])) t := by
      intro t k
      refine R371 t ?_
      refine XS.dup X366.here hx rfl (hb hby at_52) rfl rfl ?_
      refine XS.iload X366.here hx rfl (hb hby at_53) rfl ?_
      refine XS.iload X366.here hx rfl (hb hby at_55) rfl ?_
      refine XS.aload X366.here hx rfl (hb hby at_57) rfl rfl ?_
      exact k
    obtain ⟨_, _, ⟨T373, L373, k373, n373⟩, -, X373, ⟨Lc373, hQ373, l373, y373, z373⟩, st373⟩ := X366.specialBack hx (y := (⟨"com/example/rigorous_bytecode/rigorousbytecode/dex/ArrayDataPayload", "<init>", "(II[B)V"⟩ : MethodName)) rfl hown (mvT hZ (hw _ (List.mem_of_getElem? (i := 9) rfl))) (mvT hZ (hw _ (List.mem_of_getElem? (i := 10) rfl))) (mvT hZ (hw _ (List.mem_of_getElem? (i := 11) rfl))) (by decide) (backOf (W := 1) (rm2 l Z a0 hw [] b1 p5 (2 : Int32) t1 (.int (0 : Int32)) (.int (0 : Int32)) .null h366 n0 Z366 A366 F_368 F_369 F_370 n_b1) hZ (hw _ (List.mem_of_getElem? (i := 11) rfl)) (hw _ (List.mem_of_getElem? (i := 8) rfl)) (by decide) (by decide)) (g := (mkF m 59 #[.val (.int p1), .val (.long q2), .second, .val (.long q3), .second, .val (.int p4), .val (.int p5), .val (.int (1 : Int32)), .val (.int (2 : Int32)), .val (.int (8 : Int32)), .val (.int ps), .val (.ref t1), .unset, .unset, .unset, .unset, .unset, .unset, .unset, .unset, .unset, .unset] [(.ref t1), (.int (2 : Int32)), (.int p5), (.ref b1), (.ref b1)])) rfl (by rw [hml]; rfl) (Steps.refl _) (a := b1) (argsL := [(.int p5), (.int (2 : Int32)), (.ref t1)]) (rest := [(.ref b1)]) (lenOf pd_2 rfl) rfl (by show 2 * 0 + _ ≤ _; exact Nat.le_of_eq rfl) (hb hby at_59) (fun _ _ => ⟨rfl, e366, (by decide : 2 + 0 ≤ _), (by decide : 19 + 0 ≤ _)⟩)
    dsimp only [Pt.U, Pt.locs, Pt.cells, Pt.slots] at X373 l373 y373 z373 st373 hQ373
    subst l373 y373 z373
    obtain ⟨rfl, M373, J373, Fa373, Fb373⟩ := hQ373
    have Z373 : n0 ≤ T373.heap.size := Nat.le_trans Z366 J373.1
    have A_374 : Arv Z T373.heap t1 c358 .byte (16 : Int32) [(.int (own_b0 q2)), (.int (own_b q2 (8 : Int32))), (.int (own_b q2 (16 : Int32))), (.int (own_b q2 (24 : Int32))), (.int (own_b q2 (32 : Int32))), (.int (own_b q2 (40 : Int32))), (.int (own_b q2 (48 : Int32))), (.int (own_b q2 (56 : Int32))), (.int (own_b0 q3)), (.int (own_b q3 (8 : Int32))), (.int (own_b q3 (16 : Int32))), (.int (own_b q3 (24 : Int32))), (.int (own_b q3 (32 : Int32))), (.int (own_b q3 (40 : Int32))), (.int (own_b q3 (48 : Int32))), (.int (own_b q3 (56 : Int32)))] (.int (0 : Int32)) := A_367.keep J373 (ninS ne_t1_b1 nin0)
    have E_375 : Exa Z T373.heap b1 "com/example/rigorous_bytecode/rigorousbytecode/dex/ArrayDataPayload" := A366.keep J373
    have N373 := Fr.app N364 M373
    have R376 : ∀ t, Steps p.tables e below (T373.setTop (mkF m 62 #[.val (.int p1), .val (.long q2), .second, .val (.long q3), .second, .val (.int p4), .val (.int p5), .val (.int (1 : Int32)), .val (.int (2 : Int32)), .val (.int (8 : Int32)), .val (.int ps), .val (.ref t1), .unset, .unset, .unset, .unset, .unset, .unset, .unset, .unset, .unset, .unset] [(.ref b1)])) t → Steps p.tables e below (s₁.setTop (mkF m 0 #[.val (.int p1), .val (.long q2), .second, .val (.long q3), .second, .val (.int p4), .val (.int p5), .unset, .unset, .unset, .unset, .unset, .unset, .unset, .unset, .unset, .unset, .unset, .unset, .unset, .unset, .unset] [])) t := fun t k => R372 t (st373.trans k)
    have R377 : ∀ t, Steps p.tables e below (T373.setTop (mkF m 68 #[.val (.int p1), .val (.long q2), .second, .val (.long q3), .second, .val (.int p4), .val (.int p5), .val (.int (1 : Int32)), .val (.int (2 : Int32)), .val (.int (8 : Int32)), .val (.int ps), .val (.ref t1), .val (.ref b1), .unset, .unset, .unset, .unset, .unset, .unset, .unset, .unset, .unset] [(.int ps), (.ref b1)])) t → Steps p.tables e below (s₁.setTop (mkF m 0 #[.val (.int p1), .val (.long q2), .second, .val (.long q3), .second, .val (.int p4), .val (.int p5), .unset, .unset, .unset, .unset, .unset, .unset, .unset, .unset, .unset, .unset, .unset, .unset, .unset, .unset, .unset] [])) t := by
      intro t k
      refine R376 t ?_
      refine XS.astore X373.here hx rfl (hb hby at_62) rfl rfl (l' := #[.val (.int p1), .val (.long q2), .second, .val (.long q3), .second, .val (.int p4), .val (.int p5), .val (.int (1 : Int32)), .val (.int (2 : Int32)), .val (.int (8 : Int32)), .val (.int ps), .val (.ref t1), .val (.ref b1), .unset, .unset, .unset, .unset, .unset, .unset, .unset, .unset, .unset]) rfl ?_
      refine XS.aload X373.here hx rfl (hb hby at_64) rfl rfl ?_
      refine XS.iload X373.here hx rfl (hb hby at_66) rfl ?_
      exact k
    obtain ⟨_, _, q379a, q379b, q379c⟩ := isOf hZ rfl E_375
    obtain ⟨_, _, ⟨T378, L378, k378, n378⟩, -, X378, ⟨Lc378, hQ378, l378, y378, z378⟩, st378⟩ := X373.virtualBack hx (y := (⟨"com/example/rigorous_bytecode/rigorousbytecode/dex/ArrayDataPayload", "element", "(I)J"⟩ : MethodName)) (z := (⟨"com/example/rigorous_bytecode/rigorousbytecode/dex/ArrayDataPayload", "element", "(I)J"⟩ : MethodName)) hown (mvT hZ (hw _ (List.mem_of_getElem? (i := 26) rfl))) (mvT hZ (hw _ (List.mem_of_getElem? (i := 27) rfl))) (notFace_of_selects (args := #[]) (mvT hZ (hw _ (List.mem_of_getElem? (i := 29) rfl)))) (mvT hZ (hw _ (List.mem_of_getElem? (i := 29) rfl))) (mvT hZ (hw _ (List.mem_of_getElem? (i := 28) rfl))) (by decide) (backOf (W := 0) (rme2 l Z a0 hw [] b1 ps t1 c358 (own_vs q2 q3) (fun j => own_dat q2 q3 (ps.toNatClampNeg * 2 + j)) T373.heap n0 Z373 Fa373 Fb373 A_374 (own_hg1 q2 q3 ps hps)) hZ (hw _ (List.mem_of_getElem? (i := 30) rfl)) (hw _ (List.mem_of_getElem? (i := 8) rfl)) (by decide) (by decide)) q379a q379c (g := (mkF m 68 #[.val (.int p1), .val (.long q2), .second, .val (.long q3), .second, .val (.int p4), .val (.int p5), .val (.int (1 : Int32)), .val (.int (2 : Int32)), .val (.int (8 : Int32)), .val (.int ps), .val (.ref t1), .val (.ref b1), .unset, .unset, .unset, .unset, .unset, .unset, .unset, .unset, .unset] [(.int ps), (.ref b1)])) rfl (by rw [hml]; rfl) (Steps.refl _) (argsL := [(.int ps)]) (rest := []) (lenOf pd_3 rfl) rfl (by show 2 * 0 + _ ≤ _; exact Nat.le_of_eq rfl) (hb hby at_68) (fun _ _ => ⟨rfl, rfl, (by decide : 2 + 0 ≤ _), (by decide : 19 + 0 ≤ _)⟩)
    dsimp only [Pt.U, Pt.locs, Pt.cells, Pt.slots] at X378 l378 y378 z378 st378 hQ378
    subst l378 y378 z378
    obtain ⟨rfl, M378, e378⟩ := hQ378
    have N378 := Fr.app N373 M378
    have R380 : ∀ t, Steps p.tables e below (T378.setTop (mkF m 71 #[.val (.int p1), .val (.long q2), .second, .val (.long q3), .second, .val (.int p4), .val (.int p5), .val (.int (1 : Int32)), .val (.int (2 : Int32)), .val (.int (8 : Int32)), .val (.int ps), .val (.ref t1), .val (.ref b1), .unset, .unset, .unset, .unset, .unset, .unset, .unset, .unset, .unset] [(.long (own_sx (own_acc (fun j => own_dat q2 q3 (ps.toNatClampNeg * 2 + j)) 2 2) (48 : Int32)))])) t → Steps p.tables e below (s₁.setTop (mkF m 0 #[.val (.int p1), .val (.long q2), .second, .val (.long q3), .second, .val (.int p4), .val (.int p5), .unset, .unset, .unset, .unset, .unset, .unset, .unset, .unset, .unset, .unset, .unset, .unset, .unset, .unset, .unset] [])) t := fun t k => R377 t (st378.trans k)
    have R381 : ∀ t, Steps p.tables e below (T378.setTop (mkF m 84 #[.val (.int p1), .val (.long q2), .second, .val (.long q3), .second, .val (.int p4), .val (.int p5), .val (.int (1 : Int32)), .val (.int (2 : Int32)), .val (.int (8 : Int32)), .val (.int ps), .val (.ref t1), .val (.ref b1), .val (.long (own_sx (own_acc (fun j => own_dat q2 q3 (ps.toNatClampNeg * 2 + j)) 2 2) (48 : Int32))), .second, .val (.int (ps * (2 : Int32))), .unset, .unset, .unset, .unset, .unset, .unset] [(.int (8 : Int32)), (.int (ps * (2 : Int32)))])) t → Steps p.tables e below (s₁.setTop (mkF m 0 #[.val (.int p1), .val (.long q2), .second, .val (.long q3), .second, .val (.int p4), .val (.int p5), .unset, .unset, .unset, .unset, .unset, .unset, .unset, .unset, .unset, .unset, .unset, .unset, .unset, .unset, .unset] [])) t := by
      intro t k
      refine R380 t ?_
      refine XS.lstore X378.here hx rfl (hb hby at_71) rfl (l' := #[.val (.int p1), .val (.long q2), .second, .val (.long q3), .second, .val (.int p4), .val (.int p5), .val (.int (1 : Int32)), .val (.int (2 : Int32)), .val (.int (8 : Int32)), .val (.int ps), .val (.ref t1), .val (.ref b1), .val (.long (own_sx (own_acc (fun j => own_dat q2 q3 (ps.toNatClampNeg * 2 + j)) 2 2) (48 : Int32))), .second, .unset, .unset, .unset, .unset, .unset, .unset, .unset]) rfl ?_
      refine XS.iload X378.here hx rfl (hb hby at_73) rfl ?_
      refine XS.iload X378.here hx rfl (hb hby at_75) rfl ?_
      refine XS.imul X378.here hx rfl (hb hby at_77) rfl ?_
      refine XS.istore X378.here hx rfl (hb hby at_78) rfl (l' := #[.val (.int p1), .val (.long q2), .second, .val (.long q3), .second, .val (.int p4), .val (.int p5), .val (.int (1 : Int32)), .val (.int (2 : Int32)), .val (.int (8 : Int32)), .val (.int ps), .val (.ref t1), .val (.ref b1), .val (.long (own_sx (own_acc (fun j => own_dat q2 q3 (ps.toNatClampNeg * 2 + j)) 2 2) (48 : Int32))), .second, .val (.int (ps * (2 : Int32))), .unset, .unset, .unset, .unset, .unset, .unset]) rfl ?_
      refine XS.iload X378.here hx rfl (hb hby at_80) rfl ?_
      refine XS.bipush X378.here hx rfl (hb hby at_82) ?_
      exact k
    have R382 : ∀ t, Steps p.tables e below (T378.setTop (mkF m 92 #[.val (.int p1), .val (.long q2), .second, .val (.long q3), .second, .val (.int p4), .val (.int p5), .val (.int (1 : Int32)), .val (.int (2 : Int32)), .val (.int (8 : Int32)), .val (.int ps), .val (.ref t1), .val (.ref b1), .val (.long (own_sx (own_acc (fun j => own_dat q2 q3 (ps.toNatClampNeg * 2 + j)) 2 2) (48 : Int32))), .second, .val (.int (ps * (2 : Int32))), .unset, .unset, .unset, .unset, .unset, .unset] [(.long (own_src (ps * (2 : Int32)) q2 q3))])) t → Steps p.tables e below (s₁.setTop (mkF m 0 #[.val (.int p1), .val (.long q2), .second, .val (.long q3), .second, .val (.int p4), .val (.int p5), .unset, .unset, .unset, .unset, .unset, .unset, .unset, .unset, .unset, .unset, .unset, .unset, .unset, .unset, .unset] [])) t := by
      intro t k
      by_cases hd : (ps * (2 : Int32)) < (8 : Int32)
      · rw [show (own_src (ps * (2 : Int32)) q2 q3) = q2 from if_pos hd] at k
        have R383 : ∀ t, Steps p.tables e below (T378.setTop (mkF m 87 #[.val (.int p1), .val (.long q2), .second, .val (.long q3), .second, .val (.int p4), .val (.int p5), .val (.int (1 : Int32)), .val (.int (2 : Int32)), .val (.int (8 : Int32)), .val (.int ps), .val (.ref t1), .val (.ref b1), .val (.long (own_sx (own_acc (fun j => own_dat q2 q3 (ps.toNatClampNeg * 2 + j)) 2 2) (48 : Int32))), .second, .val (.int (ps * (2 : Int32))), .unset, .unset, .unset, .unset, .unset, .unset] [])) t → Steps p.tables e below (s₁.setTop (mkF m 0 #[.val (.int p1), .val (.long q2), .second, .val (.long q3), .second, .val (.int p4), .val (.int p5), .unset, .unset, .unset, .unset, .unset, .unset, .unset, .unset, .unset, .unset, .unset, .unset, .unset, .unset, .unset] [])) t := by
          intro t k
          refine R381 t ?_
          refine XS.icmpNo X378.here hx rfl (hb hby at_84) rfl (tlt hd).2.1 ?_
          exact k
        have R384 : ∀ t, Steps p.tables e below (T378.setTop (mkF m 92 #[.val (.int p1), .val (.long q2), .second, .val (.long q3), .second, .val (.int p4), .val (.int p5), .val (.int (1 : Int32)), .val (.int (2 : Int32)), .val (.int (8 : Int32)), .val (.int ps), .val (.ref t1), .val (.ref b1), .val (.long (own_sx (own_acc (fun j => own_dat q2 q3 (ps.toNatClampNeg * 2 + j)) 2 2) (48 : Int32))), .second, .val (.int (ps * (2 : Int32))), .unset, .unset, .unset, .unset, .unset, .unset] [(.long q2)])) t → Steps p.tables e below (s₁.setTop (mkF m 0 #[.val (.int p1), .val (.long q2), .second, .val (.long q3), .second, .val (.int p4), .val (.int p5), .unset, .unset, .unset, .unset, .unset, .unset, .unset, .unset, .unset, .unset, .unset, .unset, .unset, .unset, .unset] [])) t := by
          intro t k
          refine R383 t ?_
          refine XS.lloadN X378.here hx rfl (hb hby at_87) rfl ?_
          refine XS.goto X378.here hx rfl (pc0 := 88) (pc' := 92) rfl (hb hby at_88) (by decide) (by decide) ?_
          exact k
        exact R384 t k
      · rw [show (own_src (ps * (2 : Int32)) q2 q3) = q3 from if_neg hd] at k
        have R385 : ∀ t, Steps p.tables e below (T378.setTop (mkF m 91 #[.val (.int p1), .val (.long q2), .second, .val (.long q3), .second, .val (.int p4), .val (.int p5), .val (.int (1 : Int32)), .val (.int (2 : Int32)), .val (.int (8 : Int32)), .val (.int ps), .val (.ref t1), .val (.ref b1), .val (.long (own_sx (own_acc (fun j => own_dat q2 q3 (ps.toNatClampNeg * 2 + j)) 2 2) (48 : Int32))), .second, .val (.int (ps * (2 : Int32))), .unset, .unset, .unset, .unset, .unset, .unset] [])) t → Steps p.tables e below (s₁.setTop (mkF m 0 #[.val (.int p1), .val (.long q2), .second, .val (.long q3), .second, .val (.int p4), .val (.int p5), .unset, .unset, .unset, .unset, .unset, .unset, .unset, .unset, .unset, .unset, .unset, .unset, .unset, .unset, .unset] [])) t := by
          intro t k
          refine R381 t ?_
          refine XS.icmpYes X378.here hx rfl (pc0 := 84) (pc' := 91) rfl (hb hby at_84) rfl (flt hd).2.1 (by decide) (by decide) ?_
          exact k
        have R386 : ∀ t, Steps p.tables e below (T378.setTop (mkF m 92 #[.val (.int p1), .val (.long q2), .second, .val (.long q3), .second, .val (.int p4), .val (.int p5), .val (.int (1 : Int32)), .val (.int (2 : Int32)), .val (.int (8 : Int32)), .val (.int ps), .val (.ref t1), .val (.ref b1), .val (.long (own_sx (own_acc (fun j => own_dat q2 q3 (ps.toNatClampNeg * 2 + j)) 2 2) (48 : Int32))), .second, .val (.int (ps * (2 : Int32))), .unset, .unset, .unset, .unset, .unset, .unset] [(.long q3)])) t → Steps p.tables e below (s₁.setTop (mkF m 0 #[.val (.int p1), .val (.long q2), .second, .val (.long q3), .second, .val (.int p4), .val (.int p5), .unset, .unset, .unset, .unset, .unset, .unset, .unset, .unset, .unset, .unset, .unset, .unset, .unset, .unset, .unset] [])) t := by
          intro t k
          refine R385 t ?_
          refine XS.lloadN X378.here hx rfl (hb hby at_91) rfl ?_
          exact k
        exact R386 t k
    have R387 : ∀ t, Steps p.tables e below (T378.setTop (mkF m 110 #[.val (.int p1), .val (.long q2), .second, .val (.long q3), .second, .val (.int p4), .val (.int p5), .val (.int (1 : Int32)), .val (.int (2 : Int32)), .val (.int (8 : Int32)), .val (.int ps), .val (.ref t1), .val (.ref b1), .val (.long (own_sx (own_acc (fun j => own_dat q2 q3 (ps.toNatClampNeg * 2 + j)) 2 2) (48 : Int32))), .second, .val (.int (ps * (2 : Int32))), .val (.long (own_src (ps * (2 : Int32)) q2 q3)), .second, .val (.long (own_x (ps * (2 : Int32)) q2 q3)), .second, .unset, .unset] [(.int (1 : Int32)), (.int (2 : Int32))])) t → Steps p.tables e below (s₁.setTop (mkF m 0 #[.val (.int p1), .val (.long q2), .second, .val (.long q3), .second, .val (.int p4), .val (.int p5), .unset, .unset, .unset, .unset, .unset, .unset, .unset, .unset, .unset, .unset, .unset, .unset, .unset, .unset, .unset] [])) t := by
      intro t k
      refine R382 t ?_
      refine XS.lstore X378.here hx rfl (hb hby at_92) rfl (l' := #[.val (.int p1), .val (.long q2), .second, .val (.long q3), .second, .val (.int p4), .val (.int p5), .val (.int (1 : Int32)), .val (.int (2 : Int32)), .val (.int (8 : Int32)), .val (.int ps), .val (.ref t1), .val (.ref b1), .val (.long (own_sx (own_acc (fun j => own_dat q2 q3 (ps.toNatClampNeg * 2 + j)) 2 2) (48 : Int32))), .second, .val (.int (ps * (2 : Int32))), .val (.long (own_src (ps * (2 : Int32)) q2 q3)), .second, .unset, .unset, .unset, .unset]) rfl ?_
      refine XS.lload X378.here hx rfl (hb hby at_94) rfl ?_
      refine XS.iload X378.here hx rfl (hb hby at_96) rfl ?_
      refine XS.bipush X378.here hx rfl (hb hby at_98) ?_
      refine XS.iand X378.here hx rfl (hb hby at_100) rfl ?_
      refine XS.bipush X378.here hx rfl (hb hby at_101) ?_
      refine XS.imul X378.here hx rfl (hb hby at_103) rfl ?_
      refine XS.lushr X378.here hx rfl (hb hby at_104) rfl ?_
      refine XS.lstore X378.here hx rfl (hb hby at_105) rfl (l' := #[.val (.int p1), .val (.long q2), .second, .val (.long q3), .second, .val (.int p4), .val (.int p5), .val (.int (1 : Int32)), .val (.int (2 : Int32)), .val (.int (8 : Int32)), .val (.int ps), .val (.ref t1), .val (.ref b1), .val (.long (own_sx (own_acc (fun j => own_dat q2 q3 (ps.toNatClampNeg * 2 + j)) 2 2) (48 : Int32))), .second, .val (.int (ps * (2 : Int32))), .val (.long (own_src (ps * (2 : Int32)) q2 q3)), .second, .val (.long (own_x (ps * (2 : Int32)) q2 q3)), .second, .unset, .unset]) rfl ?_
      refine XS.iload X378.here hx rfl (hb hby at_107) rfl ?_
      refine XS.iconst X378.here hx rfl (hb hby at_109) ?_
      exact k
    have R388 : ∀ t, Steps p.tables e below (T378.setTop (mkF m 123 #[.val (.int p1), .val (.long q2), .second, .val (.long q3), .second, .val (.int p4), .val (.int p5), .val (.int (1 : Int32)), .val (.int (2 : Int32)), .val (.int (8 : Int32)), .val (.int ps), .val (.ref t1), .val (.ref b1), .val (.long (own_sx (own_acc (fun j => own_dat q2 q3 (ps.toNatClampNeg * 2 + j)) 2 2) (48 : Int32))), .second, .val (.int (ps * (2 : Int32))), .val (.long (own_src (ps * (2 : Int32)) q2 q3)), .second, .val (.long (own_x (ps * (2 : Int32)) q2 q3)), .second, .unset, .unset] [])) t → Steps p.tables e below (s₁.setTop (mkF m 0 #[.val (.int p1), .val (.long q2), .second, .val (.long q3), .second, .val (.int p4), .val (.int p5), .unset, .unset, .unset, .unset, .unset, .unset, .unset, .unset, .unset, .unset, .unset, .unset, .unset, .unset, .unset] [])) t := by
      intro t k
      refine R387 t ?_
      refine XS.icmpYes X378.here hx rfl (pc0 := 110) (pc' := 123) rfl (hb hby at_110) rfl (feq (by decide)).2 (by decide) (by decide) ?_
      exact k
    have R389 : ∀ t, Steps p.tables e below (T378.setTop (mkF m 126 #[.val (.int p1), .val (.long q2), .second, .val (.long q3), .second, .val (.int p4), .val (.int p5), .val (.int (1 : Int32)), .val (.int (2 : Int32)), .val (.int (8 : Int32)), .val (.int ps), .val (.ref t1), .val (.ref b1), .val (.long (own_sx (own_acc (fun j => own_dat q2 q3 (ps.toNatClampNeg * 2 + j)) 2 2) (48 : Int32))), .second, .val (.int (ps * (2 : Int32))), .val (.long (own_src (ps * (2 : Int32)) q2 q3)), .second, .val (.long (own_x (ps * (2 : Int32)) q2 q3)), .second, .unset, .unset] [(.int (2 : Int32)), (.int (2 : Int32))])) t → Steps p.tables e below (s₁.setTop (mkF m 0 #[.val (.int p1), .val (.long q2), .second, .val (.long q3), .second, .val (.int p4), .val (.int p5), .unset, .unset, .unset, .unset, .unset, .unset, .unset, .unset, .unset, .unset, .unset, .unset, .unset, .unset, .unset] [])) t := by
      intro t k
      refine R388 t ?_
      refine XS.iload X378.here hx rfl (hb hby at_123) rfl ?_
      refine XS.iconst X378.here hx rfl (hb hby at_125) ?_
      exact k
    have R390 : ∀ t, Steps p.tables e below (T378.setTop (mkF m 129 #[.val (.int p1), .val (.long q2), .second, .val (.long q3), .second, .val (.int p4), .val (.int p5), .val (.int (1 : Int32)), .val (.int (2 : Int32)), .val (.int (8 : Int32)), .val (.int ps), .val (.ref t1), .val (.ref b1), .val (.long (own_sx (own_acc (fun j => own_dat q2 q3 (ps.toNatClampNeg * 2 + j)) 2 2) (48 : Int32))), .second, .val (.int (ps * (2 : Int32))), .val (.long (own_src (ps * (2 : Int32)) q2 q3)), .second, .val (.long (own_x (ps * (2 : Int32)) q2 q3)), .second, .unset, .unset] [])) t → Steps p.tables e below (s₁.setTop (mkF m 0 #[.val (.int p1), .val (.long q2), .second, .val (.long q3), .second, .val (.int p4), .val (.int p5), .unset, .unset, .unset, .unset, .unset, .unset, .unset, .unset, .unset, .unset, .unset, .unset, .unset, .unset, .unset] [])) t := by
      intro t k
      refine R389 t ?_
      refine XS.icmpNo X378.here hx rfl (hb hby at_126) rfl (teq rfl).2 ?_
      exact k
    have R391 : ∀ t, Steps p.tables e below (T378.setTop (mkF m 163 #[.val (.int p1), .val (.long q2), .second, .val (.long q3), .second, .val (.int p4), .val (.int p5), .val (.int (1 : Int32)), .val (.int (2 : Int32)), .val (.int (8 : Int32)), .val (.int ps), .val (.ref t1), .val (.ref b1), .val (.long (own_sx (own_acc (fun j => own_dat q2 q3 (ps.toNatClampNeg * 2 + j)) 2 2) (48 : Int32))), .second, .val (.int (ps * (2 : Int32))), .val (.long (own_src (ps * (2 : Int32)) q2 q3)), .second, .val (.long (own_x (ps * (2 : Int32)) q2 q3)), .second, .val (.long (((((((own_x (ps * (2 : Int32)) q2 q3)).toInt32)).toInt16.toInt32)).toInt64)), .second] [(.int (lcmpW (own_sx (own_acc (fun j => own_dat q2 q3 (ps.toNatClampNeg * 2 + j)) 2 2) (48 : Int32)) (((((((own_x (ps * (2 : Int32)) q2 q3)).toInt32)).toInt16.toInt32)).toInt64)))])) t → Steps p.tables e below (s₁.setTop (mkF m 0 #[.val (.int p1), .val (.long q2), .second, .val (.long q3), .second, .val (.int p4), .val (.int p5), .unset, .unset, .unset, .unset, .unset, .unset, .unset, .unset, .unset, .unset, .unset, .unset, .unset, .unset, .unset] [])) t := by
      intro t k
      refine R390 t ?_
      refine XS.lload X378.here hx rfl (hb hby at_129) rfl ?_
      refine XS.l2i X378.here hx rfl (hb hby at_131) rfl ?_
      refine XS.i2s X378.here hx rfl (hb hby at_132) rfl ?_
      refine XS.i2l X378.here hx rfl (hb hby at_133) rfl ?_
      refine XS.lstore X378.here hx rfl (hb hby at_134) rfl (l' := #[.val (.int p1), .val (.long q2), .second, .val (.long q3), .second, .val (.int p4), .val (.int p5), .val (.int (1 : Int32)), .val (.int (2 : Int32)), .val (.int (8 : Int32)), .val (.int ps), .val (.ref t1), .val (.ref b1), .val (.long (own_sx (own_acc (fun j => own_dat q2 q3 (ps.toNatClampNeg * 2 + j)) 2 2) (48 : Int32))), .second, .val (.int (ps * (2 : Int32))), .val (.long (own_src (ps * (2 : Int32)) q2 q3)), .second, .val (.long (own_x (ps * (2 : Int32)) q2 q3)), .second, .val (.long (((((((own_x (ps * (2 : Int32)) q2 q3)).toInt32)).toInt16.toInt32)).toInt64)), .second]) rfl ?_
      refine XS.goto X378.here hx rfl (pc0 := 136) (pc' := 158) rfl (hb hby at_136) (by decide) (by decide) ?_
      refine XS.lload X378.here hx rfl (hb hby at_158) rfl ?_
      refine XS.lload X378.here hx rfl (hb hby at_160) rfl ?_
      refine XS.lcmp X378.here hx rfl (hb hby at_162) rfl ?_
      exact k
    have R392 : ∀ t, Steps p.tables e below (T378.setTop (mkF m 166 #[.val (.int p1), .val (.long q2), .second, .val (.long q3), .second, .val (.int p4), .val (.int p5), .val (.int (1 : Int32)), .val (.int (2 : Int32)), .val (.int (8 : Int32)), .val (.int ps), .val (.ref t1), .val (.ref b1), .val (.long (own_sx (own_acc (fun j => own_dat q2 q3 (ps.toNatClampNeg * 2 + j)) 2 2) (48 : Int32))), .second, .val (.int (ps * (2 : Int32))), .val (.long (own_src (ps * (2 : Int32)) q2 q3)), .second, .val (.long (own_x (ps * (2 : Int32)) q2 q3)), .second, .val (.long (((((((own_x (ps * (2 : Int32)) q2 q3)).toInt32)).toInt16.toInt32)).toInt64)), .second] [])) t → Steps p.tables e below (s₁.setTop (mkF m 0 #[.val (.int p1), .val (.long q2), .second, .val (.long q3), .second, .val (.int p4), .val (.int p5), .unset, .unset, .unset, .unset, .unset, .unset, .unset, .unset, .unset, .unset, .unset, .unset, .unset, .unset, .unset] [])) t := by
      intro t k
      refine R391 t ?_
      refine XS.ifNo X378.here hx rfl (hb hby at_163) rfl ((if0 _ _).trans (teq ((lw_eq _ _).mpr (own_law1 q2 q3 ps hps))).2) ?_
      exact k
    have R393 : ∀ t, Steps p.tables e below (T378.setTop (mkF m 171 #[.val (.int p1), .val (.long q2), .second, .val (.long q3), .second, .val (.int p4), .val (.int p5), .val (.int (1 : Int32)), .val (.int (2 : Int32)), .val (.int (8 : Int32)), .val (.int ps), .val (.ref t1), .val (.ref b1), .val (.long (own_sx (own_acc (fun j => own_dat q2 q3 (ps.toNatClampNeg * 2 + j)) 2 2) (48 : Int32))), .second, .val (.int (ps * (2 : Int32))), .val (.long (own_src (ps * (2 : Int32)) q2 q3)), .second, .val (.long (own_x (ps * (2 : Int32)) q2 q3)), .second, .val (.long (((((((own_x (ps * (2 : Int32)) q2 q3)).toInt32)).toInt16.toInt32)).toInt64)), .second] [(.int (1 : Int32))])) t → Steps p.tables e below (s₁.setTop (mkF m 0 #[.val (.int p1), .val (.long q2), .second, .val (.long q3), .second, .val (.int p4), .val (.int p5), .unset, .unset, .unset, .unset, .unset, .unset, .unset, .unset, .unset, .unset, .unset, .unset, .unset, .unset, .unset] [])) t := by
      intro t k
      refine R392 t ?_
      refine XS.iconst X378.here hx rfl (hb hby at_166) ?_
      refine XS.goto X378.here hx rfl (pc0 := 167) (pc' := 171) rfl (hb hby at_167) (by decide) (by decide) ?_
      exact k
    obtain ⟨fs, hr, hrun, hended, hW, hsame⟩ := X378.leave (v := some (.int (1 : Int32))) (fun h => by rw [Bd.returns] at h; cases h)
    refine ⟨_, _, pre0 _ (R393 _ (retN X378 hx (t := .boolean) Bd.returns (by simp) (hb hby at_171) hr)), hrun, hended, _, _, rfl, ?_, ⟨_, rfl⟩, hW, hsame.mono (by decide) (by decide)⟩
    show Q_rm0 Z p1 q2 q3 p4 p5  h0 n0 _ T378.heap _
    rw [e378]
    exact ⟨rfl, N378⟩
  · have R394 : ∀ t, Steps p.tables e below (s₁.setTop (mkF m 26 #[.val (.int p1), .val (.long q2), .second, .val (.long q3), .second, .val (.int p4), .val (.int p5), .val (.int (2 : Int32)), .val (.int (4 : Int32)), .val (.int (4 : Int32)), .unset, .unset, .unset, .unset, .unset, .unset, .unset, .unset, .unset, .unset, .unset, .unset] [(.int ((p4 &&& (2147483647 : Int32)) - ((p4 &&& (2147483647 : Int32)) / (4 : Int32)) * (4 : Int32)))])) t → Steps p.tables e below (s₁.setTop (mkF m 0 #[.val (.int p1), .val (.long q2), .second, .val (.long q3), .second, .val (.int p4), .val (.int p5), .unset, .unset, .unset, .unset, .unset, .unset, .unset, .unset, .unset, .unset, .unset, .unset, .unset, .unset, .unset] [])) t := by
      intro t k
      refine R317 t ?_
      refine XS.iconst X0.here hx rfl (hb hby at_5) ?_
      refine XS.iload X0.here hx rfl (hb hby at_6) rfl ?_
      refine XS.ishl X0.here hx rfl (hb hby at_8) rfl ?_
      refine XS.istore X0.here hx rfl (hb hby at_9) rfl (l' := #[.val (.int p1), .val (.long q2), .second, .val (.long q3), .second, .val (.int p4), .val (.int p5), .val (.int (2 : Int32)), .val (.int (4 : Int32)), .unset, .unset, .unset, .unset, .unset, .unset, .unset, .unset, .unset, .unset, .unset, .unset, .unset]) rfl ?_
      refine XS.bipush X0.here hx rfl (hb hby at_11) ?_
      refine XS.iload X0.here hx rfl (hb hby at_13) rfl ?_
      refine XS.ishr X0.here hx rfl (hb hby at_15) rfl ?_
      refine XS.istore X0.here hx rfl (hb hby at_16) rfl (l' := #[.val (.int p1), .val (.long q2), .second, .val (.long q3), .second, .val (.int p4), .val (.int p5), .val (.int (2 : Int32)), .val (.int (4 : Int32)), .val (.int (4 : Int32)), .unset, .unset, .unset, .unset, .unset, .unset, .unset, .unset, .unset, .unset, .unset, .unset]) rfl ?_
      refine XS.iload X0.here hx rfl (hb hby at_18) rfl ?_
      refine X0.ldcInt hx hown (mvT hZ (hw _ (List.mem_of_getElem? (i := 0) rfl))) (g := (mkF m 20 #[.val (.int p1), .val (.long q2), .second, .val (.long q3), .second, .val (.int p4), .val (.int p5), .val (.int (2 : Int32)), .val (.int (4 : Int32)), .val (.int (4 : Int32)), .unset, .unset, .unset, .unset, .unset, .unset, .unset, .unset, .unset, .unset, .unset, .unset] [(.int p4)])) rfl (hb hby at_20) _ ?_
      refine XS.iand X0.here hx rfl (hb hby at_22) rfl ?_
      refine XS.iload X0.here hx rfl (hb hby at_23) rfl ?_
      refine XS.irem X0.here hx rfl (hb hby at_25) rfl (by decide) ?_
      exact k
    obtain ⟨ps, h_ps⟩ : ∃ z : Int32, z = ((p4 &&& (2147483647 : Int32)) - ((p4 &&& (2147483647 : Int32)) / (4 : Int32)) * (4 : Int32)) := ⟨_, rfl⟩
    have R395 : ∀ t, Steps p.tables e below (s₁.setTop (mkF m 26 #[.val (.int p1), .val (.long q2), .second, .val (.long q3), .second, .val (.int p4), .val (.int p5), .val (.int (2 : Int32)), .val (.int (4 : Int32)), .val (.int (4 : Int32)), .unset, .unset, .unset, .unset, .unset, .unset, .unset, .unset, .unset, .unset, .unset, .unset] [(.int ps)])) t → Steps p.tables e below (s₁.setTop (mkF m 0 #[.val (.int p1), .val (.long q2), .second, .val (.long q3), .second, .val (.int p4), .val (.int p5), .unset, .unset, .unset, .unset, .unset, .unset, .unset, .unset, .unset, .unset, .unset, .unset, .unset, .unset, .unset] [])) t := by rw [h_ps]; exact R394
    have hps : 0 ≤ ps.toInt ∧ ps.toInt < 4 := by rw [h_ps]; exact own_pos2 p4
    have R396 : ∀ t, Steps p.tables e below (s₁.setTop (mkF m 30 #[.val (.int p1), .val (.long q2), .second, .val (.long q3), .second, .val (.int p4), .val (.int p5), .val (.int (2 : Int32)), .val (.int (4 : Int32)), .val (.int (4 : Int32)), .val (.int ps), .unset, .unset, .unset, .unset, .unset, .unset, .unset, .unset, .unset, .unset, .unset] [(.int (16 : Int32))])) t → Steps p.tables e below (s₁.setTop (mkF m 0 #[.val (.int p1), .val (.long q2), .second, .val (.long q3), .second, .val (.int p4), .val (.int p5), .unset, .unset, .unset, .unset, .unset, .unset, .unset, .unset, .unset, .unset, .unset, .unset, .unset, .unset, .unset] [])) t := by
      intro t k
      refine R395 t ?_
      refine XS.istore X0.here hx rfl (hb hby at_26) rfl (l' := #[.val (.int p1), .val (.long q2), .second, .val (.long q3), .second, .val (.int p4), .val (.int p5), .val (.int (2 : Int32)), .val (.int (4 : Int32)), .val (.int (4 : Int32)), .val (.int ps), .unset, .unset, .unset, .unset, .unset, .unset, .unset, .unset, .unset, .unset, .unset]) rfl ?_
      refine XS.bipush X0.here hx rfl (hb hby at_28) ?_
      exact k
    obtain ⟨T397, h397, c397, X397, e397, x397, B397, st397⟩ := newP X0 hx hZ (hw _ (List.mem_of_getElem? (i := 1) rfl)) e0 (g := (mkF m 30 #[.val (.int p1), .val (.long q2), .second, .val (.long q3), .second, .val (.int p4), .val (.int p5), .val (.int (2 : Int32)), .val (.int (4 : Int32)), .val (.int (4 : Int32)), .val (.int ps), .unset, .unset, .unset, .unset, .unset, .unset, .unset, .unset, .unset, .unset, .unset] [(.int (16 : Int32))])) rfl (hb hby at_30) rfl (by decide) (cap := 16) (by decide) (by decide) (by decide) (by decide)
    obtain ⟨t1, g_t1⟩ : ∃ z, z = h0.size := ⟨_, rfl⟩
    rw [← g_t1] at B397 st397
    have n_t1 : n0 ≤ t1 := Nat.le_trans Z0 (Nat.le_of_eq g_t1.symm)
    have Z397 : n0 ≤ h397.size := Nat.le_trans Z0 x397.1
    have V397 : Arv Z h397 t1 c397 .byte (16 : Int32) [(.int (0 : Int32)), (.int (0 : Int32)), (.int (0 : Int32)), (.int (0 : Int32)), (.int (0 : Int32)), (.int (0 : Int32)), (.int (0 : Int32)), (.int (0 : Int32)), (.int (0 : Int32)), (.int (0 : Int32)), (.int (0 : Int32)), (.int (0 : Int32)), (.int (0 : Int32)), (.int (0 : Int32)), (.int (0 : Int32)), (.int (0 : Int32))] (.int (0 : Int32)) := (Arv.new B397 (by decide)).pad (pad_rep [] (.int (0 : Int32)) 16)
    have R398 : ∀ t, Steps p.tables e below (T397.setTop (mkF m 32 #[.val (.int p1), .val (.long q2), .second, .val (.long q3), .second, .val (.int p4), .val (.int p5), .val (.int (2 : Int32)), .val (.int (4 : Int32)), .val (.int (4 : Int32)), .val (.int ps), .unset, .unset, .unset, .unset, .unset, .unset, .unset, .unset, .unset, .unset, .unset] [(.ref t1)])) t → Steps p.tables e below (s₁.setTop (mkF m 0 #[.val (.int p1), .val (.long q2), .second, .val (.long q3), .second, .val (.int p4), .val (.int p5), .unset, .unset, .unset, .unset, .unset, .unset, .unset, .unset, .unset, .unset, .unset, .unset, .unset, .unset, .unset] [])) t := fun t k => R396 t (st397 _ k)
    have R399 : ∀ t, Steps p.tables e below (T397.setTop (mkF m 38 #[.val (.int p1), .val (.long q2), .second, .val (.long q3), .second, .val (.int p4), .val (.int p5), .val (.int (2 : Int32)), .val (.int (4 : Int32)), .val (.int (4 : Int32)), .val (.int ps), .val (.ref t1), .unset, .unset, .unset, .unset, .unset, .unset, .unset, .unset, .unset, .unset] [(.long q2), (.int (0 : Int32)), (.ref t1)])) t → Steps p.tables e below (s₁.setTop (mkF m 0 #[.val (.int p1), .val (.long q2), .second, .val (.long q3), .second, .val (.int p4), .val (.int p5), .unset, .unset, .unset, .unset, .unset, .unset, .unset, .unset, .unset, .unset, .unset, .unset, .unset, .unset, .unset] [])) t := by
      intro t k
      refine R398 t ?_
      refine XS.astore X397.here hx rfl (hb hby at_32) rfl rfl (l' := #[.val (.int p1), .val (.long q2), .second, .val (.long q3), .second, .val (.int p4), .val (.int p5), .val (.int (2 : Int32)), .val (.int (4 : Int32)), .val (.int (4 : Int32)), .val (.int ps), .val (.ref t1), .unset, .unset, .unset, .unset, .unset, .unset, .unset, .unset, .unset, .unset]) rfl ?_
      refine XS.aload X397.here hx rfl (hb hby at_34) rfl rfl ?_
      refine XS.iconst X397.here hx rfl (hb hby at_36) ?_
      refine XS.lloadN X397.here hx rfl (hb hby at_37) rfl ?_
      exact k
    obtain ⟨_, _, ⟨T400, L400, k400, n400⟩, -, X400, ⟨Lc400, hQ400, l400, y400, z400⟩, st400⟩ := Jvm.LawKit.callS X397 hx (y := (⟨"com/example/rigorous_bytecode/rigorousbytecode/dex/ArrayDataPayloadElementPinLaw", "put", "([BIJ)V"⟩ : MethodName)) hown (mvT hZ (hw _ (List.mem_of_getElem? (i := 2) rfl))) (mvT hZ (hw _ (List.mem_of_getElem? (i := 3) rfl))) (mvT hZ (hw _ (List.mem_of_getElem? (i := 4) rfl))) (mvT hZ (hw _ (List.mem_of_getElem? (i := 5) rfl))) (by decide) (backOf (W := 0) (rmp0 l Z a0 hw [] t1 q2 c397  h397 n0 Z397 V397 n_t1) hZ (hw _ (List.mem_of_getElem? (i := 5) rfl)) (hw _ (List.mem_of_getElem? (i := 4) rfl)) (by decide) (by decide)) (g := (mkF m 38 #[.val (.int p1), .val (.long q2), .second, .val (.long q3), .second, .val (.int p4), .val (.int p5), .val (.int (2 : Int32)), .val (.int (4 : Int32)), .val (.int (4 : Int32)), .val (.int ps), .val (.ref t1), .unset, .unset, .unset, .unset, .unset, .unset, .unset, .unset, .unset, .unset] [(.long q2), (.int (0 : Int32)), (.ref t1)])) rfl (by rw [hml]; rfl) (argsL := [(.ref t1), (.int (0 : Int32)), (.long q2)]) (rest := []) (lenOf pd_1 rfl) rfl (by show 2 * 0 + _ ≤ _; exact Nat.le_of_eq rfl) (hb hby at_38) (fun _ _ => ⟨rfl, e397, (by decide : 1 + 0 ≤ _), (by decide : 16 + 0 ≤ _)⟩)
    dsimp only [Pt.U, Pt.locs, Pt.cells, Pt.slots] at X400 l400 y400 z400 st400 hQ400
    subst l400 y400 z400
    obtain ⟨rfl, M400, J400, Vp400⟩ := hQ400
    have Z400 : n0 ≤ T400.heap.size := Nat.le_trans Z397 J400.1
    have N400 := Fr.app N0 M400
    have R401 : ∀ t, Steps p.tables e below (T400.setTop (mkF m 41 #[.val (.int p1), .val (.long q2), .second, .val (.long q3), .second, .val (.int p4), .val (.int p5), .val (.int (2 : Int32)), .val (.int (4 : Int32)), .val (.int (4 : Int32)), .val (.int ps), .val (.ref t1), .unset, .unset, .unset, .unset, .unset, .unset, .unset, .unset, .unset, .unset] [])) t → Steps p.tables e below (s₁.setTop (mkF m 0 #[.val (.int p1), .val (.long q2), .second, .val (.long q3), .second, .val (.int p4), .val (.int p5), .unset, .unset, .unset, .unset, .unset, .unset, .unset, .unset, .unset, .unset, .unset, .unset, .unset, .unset, .unset] [])) t := fun t k => R399 t (st400 _ k)
    have R402 : ∀ t, Steps p.tables e below (T400.setTop (mkF m 46 #[.val (.int p1), .val (.long q2), .second, .val (.long q3), .second, .val (.int p4), .val (.int p5), .val (.int (2 : Int32)), .val (.int (4 : Int32)), .val (.int (4 : Int32)), .val (.int ps), .val (.ref t1), .unset, .unset, .unset, .unset, .unset, .unset, .unset, .unset, .unset, .unset] [(.long q3), (.int (8 : Int32)), (.ref t1)])) t → Steps p.tables e below (s₁.setTop (mkF m 0 #[.val (.int p1), .val (.long q2), .second, .val (.long q3), .second, .val (.int p4), .val (.int p5), .unset, .unset, .unset, .unset, .unset, .unset, .unset, .unset, .unset, .unset, .unset, .unset, .unset, .unset, .unset] [])) t := by
      intro t k
      refine R401 t ?_
      refine XS.aload X400.here hx rfl (hb hby at_41) rfl rfl ?_
      refine XS.bipush X400.here hx rfl (hb hby at_43) ?_
      refine XS.lloadN X400.here hx rfl (hb hby at_45) rfl ?_
      exact k
    obtain ⟨_, _, ⟨T403, L403, k403, n403⟩, -, X403, ⟨Lc403, hQ403, l403, y403, z403⟩, st403⟩ := Jvm.LawKit.callS X400 hx (y := (⟨"com/example/rigorous_bytecode/rigorousbytecode/dex/ArrayDataPayloadElementPinLaw", "put", "([BIJ)V"⟩ : MethodName)) hown (mvT hZ (hw _ (List.mem_of_getElem? (i := 2) rfl))) (mvT hZ (hw _ (List.mem_of_getElem? (i := 3) rfl))) (mvT hZ (hw _ (List.mem_of_getElem? (i := 4) rfl))) (mvT hZ (hw _ (List.mem_of_getElem? (i := 5) rfl))) (by decide) (backOf (W := 0) (rmp8 l Z a0 hw [] t1 q3 c397 (.int (own_b0 q2)) (.int (own_b q2 (8 : Int32))) (.int (own_b q2 (16 : Int32))) (.int (own_b q2 (24 : Int32))) (.int (own_b q2 (32 : Int32))) (.int (own_b q2 (40 : Int32))) (.int (own_b q2 (48 : Int32))) (.int (own_b q2 (56 : Int32))) T400.heap n0 Z400 Vp400 n_t1) hZ (hw _ (List.mem_of_getElem? (i := 5) rfl)) (hw _ (List.mem_of_getElem? (i := 4) rfl)) (by decide) (by decide)) (g := (mkF m 46 #[.val (.int p1), .val (.long q2), .second, .val (.long q3), .second, .val (.int p4), .val (.int p5), .val (.int (2 : Int32)), .val (.int (4 : Int32)), .val (.int (4 : Int32)), .val (.int ps), .val (.ref t1), .unset, .unset, .unset, .unset, .unset, .unset, .unset, .unset, .unset, .unset] [(.long q3), (.int (8 : Int32)), (.ref t1)])) rfl (by rw [hml]; rfl) (argsL := [(.ref t1), (.int (8 : Int32)), (.long q3)]) (rest := []) (lenOf pd_1 rfl) rfl (by show 2 * 0 + _ ≤ _; exact Nat.le_of_eq rfl) (hb hby at_46) (fun _ _ => ⟨rfl, rfl, (by decide : 1 + 0 ≤ _), (by decide : 16 + 0 ≤ _)⟩)
    dsimp only [Pt.U, Pt.locs, Pt.cells, Pt.slots] at X403 l403 y403 z403 st403 hQ403
    subst l403 y403 z403
    obtain ⟨rfl, M403, J403, Vp403⟩ := hQ403
    have Z403 : n0 ≤ T403.heap.size := Nat.le_trans Z400 J403.1
    have N403 := Fr.app N400 M403
    have R404 : ∀ t, Steps p.tables e below (T403.setTop (mkF m 49 #[.val (.int p1), .val (.long q2), .second, .val (.long q3), .second, .val (.int p4), .val (.int p5), .val (.int (2 : Int32)), .val (.int (4 : Int32)), .val (.int (4 : Int32)), .val (.int ps), .val (.ref t1), .unset, .unset, .unset, .unset, .unset, .unset, .unset, .unset, .unset, .unset] [])) t → Steps p.tables e below (s₁.setTop (mkF m 0 #[.val (.int p1), .val (.long q2), .second, .val (.long q3), .second, .val (.int p4), .val (.int p5), .unset, .unset, .unset, .unset, .unset, .unset, .unset, .unset, .unset, .unset, .unset, .unset, .unset, .unset, .unset] [])) t := fun t k => R402 t (st403 _ k)
    obtain ⟨T405, h405, X405, e405, x405, A405, D405, -, st405⟩ := newO X403 hx hZ hown (hw _ (List.mem_of_getElem? (i := 6) rfl)) (hw _ (List.mem_of_getElem? (i := 7) rfl)) (hw _ (List.mem_of_getElem? (i := 8) rfl)) rfl (g := (mkF m 49 #[.val (.int p1), .val (.long q2), .second, .val (.long q3), .second, .val (.int p4), .val (.int p5), .val (.int (2 : Int32)), .val (.int (4 : Int32)), .val (.int (4 : Int32)), .val (.int ps), .val (.ref t1), .unset, .unset, .unset, .unset, .unset, .unset, .unset, .unset, .unset, .unset] [])) rfl (hb hby at_49) (by decide) (by decide)
    obtain ⟨b1, g_b1⟩ : ∃ z, z = T403.heap.size := ⟨_, rfl⟩
    rw [← g_b1] at A405 D405 st405
    have ne_t1_b1 : t1 ≠ b1 := Nat.ne_of_lt (Nat.lt_of_lt_of_eq Vp403.lt g_b1.symm)
    have n_b1 : n0 ≤ b1 := Nat.le_trans Z403 (Nat.le_of_eq g_b1.symm)
    have Z405 : n0 ≤ h405.size := Nat.le_trans Z403 x405.1
    have A_406 : Arv Z h405 t1 c397 .byte (16 : Int32) [(.int (own_b0 q2)), (.int (own_b q2 (8 : Int32))), (.int (own_b q2 (16 : Int32))), (.int (own_b q2 (24 : Int32))), (.int (own_b q2 (32 : Int32))), (.int (own_b q2 (40 : Int32))), (.int (own_b q2 (48 : Int32))), (.int (own_b q2 (56 : Int32))), (.int (own_b0 q3)), (.int (own_b q3 (8 : Int32))), (.int (own_b q3 (16 : Int32))), (.int (own_b q3 (24 : Int32))), (.int (own_b q3 (32 : Int32))), (.int (own_b q3 (40 : Int32))), (.int (own_b q3 (48 : Int32))), (.int (own_b q3 (56 : Int32)))] (.int (0 : Int32)) := Vp403.ext x405
    have F_407 : Fld Z h405 b1 "com/example/rigorous_bytecode/rigorousbytecode/dex/ArrayDataPayload" "offset" "I" (.int (0 : Int32)) := D405 (Or.inr (hw _ (List.mem_of_getElem? (i := 21) rfl))) (ty := .int) (by decide)
    have F_408 : Fld Z h405 b1 "com/example/rigorous_bytecode/rigorousbytecode/dex/ArrayDataPayload" "elementWidth" "I" (.int (0 : Int32)) := D405 (Or.inr (hw _ (List.mem_of_getElem? (i := 23) rfl))) (ty := .int) (by decide)
    have F_409 : Fld Z h405 b1 "com/example/rigorous_bytecode/rigorousbytecode/dex/ArrayDataPayload" "data" "[B" .null := D405 (Or.inr (hw _ (List.mem_of_getElem? (i := 25) rfl))) (ty := (.array .byte)) (by decide)
    have R410 : ∀ t, Steps p.tables e below (T405.setTop (mkF m 52 #[.val (.int p1), .val (.long q2), .second, .val (.long q3), .second, .val (.int p4), .val (.int p5), .val (.int (2 : Int32)), .val (.int (4 : Int32)), .val (.int (4 : Int32)), .val (.int ps), .val (.ref t1), .unset, .unset, .unset, .unset, .unset, .unset, .unset, .unset, .unset, .unset] [(.ref b1)])) t → Steps p.tables e below (s₁.setTop (mkF m 0 #[.val (.int p1), .val (.long q2), .second, .val (.long q3), .second, .val (.int p4), .val (.int p5), .unset, .unset, .unset, .unset, .unset, .unset, .unset, .unset, .unset, .unset, .unset, .unset, .unset, .unset, .unset] [])) t := fun t k => R404 t (st405 _ k)
    have R411 : ∀ t, Steps p.tables e below (T405.setTop (mkF m 59 #[.val (.int p1), .val (.long q2), .second, .val (.long q3), .second, .val (.int p4), .val (.int p5), .val (.int (2 : Int32)), .val (.int (4 : Int32)), .val (.int (4 : Int32)), .val (.int ps), .val (.ref t1), .unset, .unset, .unset, .unset, .unset, .unset, .unset, .unset, .unset, .unset] [(.ref t1), (.int (4 : Int32)), (.int p5), (.ref b1), (.ref b1)])) t → Steps p.tables e below (s₁.setTop (mkF m 0 #[.val (.int p1), .val (.long q2), .second, .val (.long q3), .second, .val (.int p4), .val (.int p5), .unset, .unset, .unset, .unset, .unset, .unset, .unset, .unset, .unset, .unset, .unset, .unset, .unset, .unset, .unset] [])) t := by
      intro t k
      refine R410 t ?_
      refine XS.dup X405.here hx rfl (hb hby at_52) rfl rfl ?_
      refine XS.iload X405.here hx rfl (hb hby at_53) rfl ?_
      refine XS.iload X405.here hx rfl (hb hby at_55) rfl ?_
      refine XS.aload X405.here hx rfl (hb hby at_57) rfl rfl ?_
      exact k
    obtain ⟨_, _, ⟨T412, L412, k412, n412⟩, -, X412, ⟨Lc412, hQ412, l412, y412, z412⟩, st412⟩ := X405.specialBack hx (y := (⟨"com/example/rigorous_bytecode/rigorousbytecode/dex/ArrayDataPayload", "<init>", "(II[B)V"⟩ : MethodName)) rfl hown (mvT hZ (hw _ (List.mem_of_getElem? (i := 9) rfl))) (mvT hZ (hw _ (List.mem_of_getElem? (i := 10) rfl))) (mvT hZ (hw _ (List.mem_of_getElem? (i := 11) rfl))) (by decide) (backOf (W := 1) (rm2 l Z a0 hw [] b1 p5 (4 : Int32) t1 (.int (0 : Int32)) (.int (0 : Int32)) .null h405 n0 Z405 A405 F_407 F_408 F_409 n_b1) hZ (hw _ (List.mem_of_getElem? (i := 11) rfl)) (hw _ (List.mem_of_getElem? (i := 8) rfl)) (by decide) (by decide)) (g := (mkF m 59 #[.val (.int p1), .val (.long q2), .second, .val (.long q3), .second, .val (.int p4), .val (.int p5), .val (.int (2 : Int32)), .val (.int (4 : Int32)), .val (.int (4 : Int32)), .val (.int ps), .val (.ref t1), .unset, .unset, .unset, .unset, .unset, .unset, .unset, .unset, .unset, .unset] [(.ref t1), (.int (4 : Int32)), (.int p5), (.ref b1), (.ref b1)])) rfl (by rw [hml]; rfl) (Steps.refl _) (a := b1) (argsL := [(.int p5), (.int (4 : Int32)), (.ref t1)]) (rest := [(.ref b1)]) (lenOf pd_2 rfl) rfl (by show 2 * 0 + _ ≤ _; exact Nat.le_of_eq rfl) (hb hby at_59) (fun _ _ => ⟨rfl, e405, (by decide : 2 + 0 ≤ _), (by decide : 19 + 0 ≤ _)⟩)
    dsimp only [Pt.U, Pt.locs, Pt.cells, Pt.slots] at X412 l412 y412 z412 st412 hQ412
    subst l412 y412 z412
    obtain ⟨rfl, M412, J412, Fa412, Fb412⟩ := hQ412
    have Z412 : n0 ≤ T412.heap.size := Nat.le_trans Z405 J412.1
    have A_413 : Arv Z T412.heap t1 c397 .byte (16 : Int32) [(.int (own_b0 q2)), (.int (own_b q2 (8 : Int32))), (.int (own_b q2 (16 : Int32))), (.int (own_b q2 (24 : Int32))), (.int (own_b q2 (32 : Int32))), (.int (own_b q2 (40 : Int32))), (.int (own_b q2 (48 : Int32))), (.int (own_b q2 (56 : Int32))), (.int (own_b0 q3)), (.int (own_b q3 (8 : Int32))), (.int (own_b q3 (16 : Int32))), (.int (own_b q3 (24 : Int32))), (.int (own_b q3 (32 : Int32))), (.int (own_b q3 (40 : Int32))), (.int (own_b q3 (48 : Int32))), (.int (own_b q3 (56 : Int32)))] (.int (0 : Int32)) := A_406.keep J412 (ninS ne_t1_b1 nin0)
    have E_414 : Exa Z T412.heap b1 "com/example/rigorous_bytecode/rigorousbytecode/dex/ArrayDataPayload" := A405.keep J412
    have N412 := Fr.app N403 M412
    have R415 : ∀ t, Steps p.tables e below (T412.setTop (mkF m 62 #[.val (.int p1), .val (.long q2), .second, .val (.long q3), .second, .val (.int p4), .val (.int p5), .val (.int (2 : Int32)), .val (.int (4 : Int32)), .val (.int (4 : Int32)), .val (.int ps), .val (.ref t1), .unset, .unset, .unset, .unset, .unset, .unset, .unset, .unset, .unset, .unset] [(.ref b1)])) t → Steps p.tables e below (s₁.setTop (mkF m 0 #[.val (.int p1), .val (.long q2), .second, .val (.long q3), .second, .val (.int p4), .val (.int p5), .unset, .unset, .unset, .unset, .unset, .unset, .unset, .unset, .unset, .unset, .unset, .unset, .unset, .unset, .unset] [])) t := fun t k => R411 t (st412.trans k)
    have R416 : ∀ t, Steps p.tables e below (T412.setTop (mkF m 68 #[.val (.int p1), .val (.long q2), .second, .val (.long q3), .second, .val (.int p4), .val (.int p5), .val (.int (2 : Int32)), .val (.int (4 : Int32)), .val (.int (4 : Int32)), .val (.int ps), .val (.ref t1), .val (.ref b1), .unset, .unset, .unset, .unset, .unset, .unset, .unset, .unset, .unset] [(.int ps), (.ref b1)])) t → Steps p.tables e below (s₁.setTop (mkF m 0 #[.val (.int p1), .val (.long q2), .second, .val (.long q3), .second, .val (.int p4), .val (.int p5), .unset, .unset, .unset, .unset, .unset, .unset, .unset, .unset, .unset, .unset, .unset, .unset, .unset, .unset, .unset] [])) t := by
      intro t k
      refine R415 t ?_
      refine XS.astore X412.here hx rfl (hb hby at_62) rfl rfl (l' := #[.val (.int p1), .val (.long q2), .second, .val (.long q3), .second, .val (.int p4), .val (.int p5), .val (.int (2 : Int32)), .val (.int (4 : Int32)), .val (.int (4 : Int32)), .val (.int ps), .val (.ref t1), .val (.ref b1), .unset, .unset, .unset, .unset, .unset, .unset, .unset, .unset, .unset]) rfl ?_
      refine XS.aload X412.here hx rfl (hb hby at_64) rfl rfl ?_
      refine XS.iload X412.here hx rfl (hb hby at_66) rfl ?_
      exact k
    obtain ⟨_, _, q418a, q418b, q418c⟩ := isOf hZ rfl E_414
    obtain ⟨_, _, ⟨T417, L417, k417, n417⟩, -, X417, ⟨Lc417, hQ417, l417, y417, z417⟩, st417⟩ := X412.virtualBack hx (y := (⟨"com/example/rigorous_bytecode/rigorousbytecode/dex/ArrayDataPayload", "element", "(I)J"⟩ : MethodName)) (z := (⟨"com/example/rigorous_bytecode/rigorousbytecode/dex/ArrayDataPayload", "element", "(I)J"⟩ : MethodName)) hown (mvT hZ (hw _ (List.mem_of_getElem? (i := 26) rfl))) (mvT hZ (hw _ (List.mem_of_getElem? (i := 27) rfl))) (notFace_of_selects (args := #[]) (mvT hZ (hw _ (List.mem_of_getElem? (i := 29) rfl)))) (mvT hZ (hw _ (List.mem_of_getElem? (i := 29) rfl))) (mvT hZ (hw _ (List.mem_of_getElem? (i := 28) rfl))) (by decide) (backOf (W := 0) (rme4 l Z a0 hw [] b1 ps t1 c397 (own_vs q2 q3) (fun j => own_dat q2 q3 (ps.toNatClampNeg * 4 + j)) T412.heap n0 Z412 Fa412 Fb412 A_413 (own_hg2 q2 q3 ps hps)) hZ (hw _ (List.mem_of_getElem? (i := 30) rfl)) (hw _ (List.mem_of_getElem? (i := 8) rfl)) (by decide) (by decide)) q418a q418c (g := (mkF m 68 #[.val (.int p1), .val (.long q2), .second, .val (.long q3), .second, .val (.int p4), .val (.int p5), .val (.int (2 : Int32)), .val (.int (4 : Int32)), .val (.int (4 : Int32)), .val (.int ps), .val (.ref t1), .val (.ref b1), .unset, .unset, .unset, .unset, .unset, .unset, .unset, .unset, .unset] [(.int ps), (.ref b1)])) rfl (by rw [hml]; rfl) (Steps.refl _) (argsL := [(.int ps)]) (rest := []) (lenOf pd_3 rfl) rfl (by show 2 * 0 + _ ≤ _; exact Nat.le_of_eq rfl) (hb hby at_68) (fun _ _ => ⟨rfl, rfl, (by decide : 2 + 0 ≤ _), (by decide : 19 + 0 ≤ _)⟩)
    dsimp only [Pt.U, Pt.locs, Pt.cells, Pt.slots] at X417 l417 y417 z417 st417 hQ417
    subst l417 y417 z417
    obtain ⟨rfl, M417, e417⟩ := hQ417
    have N417 := Fr.app N412 M417
    have R419 : ∀ t, Steps p.tables e below (T417.setTop (mkF m 71 #[.val (.int p1), .val (.long q2), .second, .val (.long q3), .second, .val (.int p4), .val (.int p5), .val (.int (2 : Int32)), .val (.int (4 : Int32)), .val (.int (4 : Int32)), .val (.int ps), .val (.ref t1), .val (.ref b1), .unset, .unset, .unset, .unset, .unset, .unset, .unset, .unset, .unset] [(.long (own_sx (own_acc (fun j => own_dat q2 q3 (ps.toNatClampNeg * 4 + j)) 4 4) (32 : Int32)))])) t → Steps p.tables e below (s₁.setTop (mkF m 0 #[.val (.int p1), .val (.long q2), .second, .val (.long q3), .second, .val (.int p4), .val (.int p5), .unset, .unset, .unset, .unset, .unset, .unset, .unset, .unset, .unset, .unset, .unset, .unset, .unset, .unset, .unset] [])) t := fun t k => R416 t (st417.trans k)
    have R420 : ∀ t, Steps p.tables e below (T417.setTop (mkF m 84 #[.val (.int p1), .val (.long q2), .second, .val (.long q3), .second, .val (.int p4), .val (.int p5), .val (.int (2 : Int32)), .val (.int (4 : Int32)), .val (.int (4 : Int32)), .val (.int ps), .val (.ref t1), .val (.ref b1), .val (.long (own_sx (own_acc (fun j => own_dat q2 q3 (ps.toNatClampNeg * 4 + j)) 4 4) (32 : Int32))), .second, .val (.int (ps * (4 : Int32))), .unset, .unset, .unset, .unset, .unset, .unset] [(.int (8 : Int32)), (.int (ps * (4 : Int32)))])) t → Steps p.tables e below (s₁.setTop (mkF m 0 #[.val (.int p1), .val (.long q2), .second, .val (.long q3), .second, .val (.int p4), .val (.int p5), .unset, .unset, .unset, .unset, .unset, .unset, .unset, .unset, .unset, .unset, .unset, .unset, .unset, .unset, .unset] [])) t := by
      intro t k
      refine R419 t ?_
      refine XS.lstore X417.here hx rfl (hb hby at_71) rfl (l' := #[.val (.int p1), .val (.long q2), .second, .val (.long q3), .second, .val (.int p4), .val (.int p5), .val (.int (2 : Int32)), .val (.int (4 : Int32)), .val (.int (4 : Int32)), .val (.int ps), .val (.ref t1), .val (.ref b1), .val (.long (own_sx (own_acc (fun j => own_dat q2 q3 (ps.toNatClampNeg * 4 + j)) 4 4) (32 : Int32))), .second, .unset, .unset, .unset, .unset, .unset, .unset, .unset]) rfl ?_
      refine XS.iload X417.here hx rfl (hb hby at_73) rfl ?_
      refine XS.iload X417.here hx rfl (hb hby at_75) rfl ?_
      refine XS.imul X417.here hx rfl (hb hby at_77) rfl ?_
      refine XS.istore X417.here hx rfl (hb hby at_78) rfl (l' := #[.val (.int p1), .val (.long q2), .second, .val (.long q3), .second, .val (.int p4), .val (.int p5), .val (.int (2 : Int32)), .val (.int (4 : Int32)), .val (.int (4 : Int32)), .val (.int ps), .val (.ref t1), .val (.ref b1), .val (.long (own_sx (own_acc (fun j => own_dat q2 q3 (ps.toNatClampNeg * 4 + j)) 4 4) (32 : Int32))), .second, .val (.int (ps * (4 : Int32))), .unset, .unset, .unset, .unset, .unset, .unset]) rfl ?_
      refine XS.iload X417.here hx rfl (hb hby at_80) rfl ?_
      refine XS.bipush X417.here hx rfl (hb hby at_82) ?_
      exact k
    have R421 : ∀ t, Steps p.tables e below (T417.setTop (mkF m 92 #[.val (.int p1), .val (.long q2), .second, .val (.long q3), .second, .val (.int p4), .val (.int p5), .val (.int (2 : Int32)), .val (.int (4 : Int32)), .val (.int (4 : Int32)), .val (.int ps), .val (.ref t1), .val (.ref b1), .val (.long (own_sx (own_acc (fun j => own_dat q2 q3 (ps.toNatClampNeg * 4 + j)) 4 4) (32 : Int32))), .second, .val (.int (ps * (4 : Int32))), .unset, .unset, .unset, .unset, .unset, .unset] [(.long (own_src (ps * (4 : Int32)) q2 q3))])) t → Steps p.tables e below (s₁.setTop (mkF m 0 #[.val (.int p1), .val (.long q2), .second, .val (.long q3), .second, .val (.int p4), .val (.int p5), .unset, .unset, .unset, .unset, .unset, .unset, .unset, .unset, .unset, .unset, .unset, .unset, .unset, .unset, .unset] [])) t := by
      intro t k
      by_cases hd : (ps * (4 : Int32)) < (8 : Int32)
      · rw [show (own_src (ps * (4 : Int32)) q2 q3) = q2 from if_pos hd] at k
        have R422 : ∀ t, Steps p.tables e below (T417.setTop (mkF m 87 #[.val (.int p1), .val (.long q2), .second, .val (.long q3), .second, .val (.int p4), .val (.int p5), .val (.int (2 : Int32)), .val (.int (4 : Int32)), .val (.int (4 : Int32)), .val (.int ps), .val (.ref t1), .val (.ref b1), .val (.long (own_sx (own_acc (fun j => own_dat q2 q3 (ps.toNatClampNeg * 4 + j)) 4 4) (32 : Int32))), .second, .val (.int (ps * (4 : Int32))), .unset, .unset, .unset, .unset, .unset, .unset] [])) t → Steps p.tables e below (s₁.setTop (mkF m 0 #[.val (.int p1), .val (.long q2), .second, .val (.long q3), .second, .val (.int p4), .val (.int p5), .unset, .unset, .unset, .unset, .unset, .unset, .unset, .unset, .unset, .unset, .unset, .unset, .unset, .unset, .unset] [])) t := by
          intro t k
          refine R420 t ?_
          refine XS.icmpNo X417.here hx rfl (hb hby at_84) rfl (tlt hd).2.1 ?_
          exact k
        have R423 : ∀ t, Steps p.tables e below (T417.setTop (mkF m 92 #[.val (.int p1), .val (.long q2), .second, .val (.long q3), .second, .val (.int p4), .val (.int p5), .val (.int (2 : Int32)), .val (.int (4 : Int32)), .val (.int (4 : Int32)), .val (.int ps), .val (.ref t1), .val (.ref b1), .val (.long (own_sx (own_acc (fun j => own_dat q2 q3 (ps.toNatClampNeg * 4 + j)) 4 4) (32 : Int32))), .second, .val (.int (ps * (4 : Int32))), .unset, .unset, .unset, .unset, .unset, .unset] [(.long q2)])) t → Steps p.tables e below (s₁.setTop (mkF m 0 #[.val (.int p1), .val (.long q2), .second, .val (.long q3), .second, .val (.int p4), .val (.int p5), .unset, .unset, .unset, .unset, .unset, .unset, .unset, .unset, .unset, .unset, .unset, .unset, .unset, .unset, .unset] [])) t := by
          intro t k
          refine R422 t ?_
          refine XS.lloadN X417.here hx rfl (hb hby at_87) rfl ?_
          refine XS.goto X417.here hx rfl (pc0 := 88) (pc' := 92) rfl (hb hby at_88) (by decide) (by decide) ?_
          exact k
        exact R423 t k
      · rw [show (own_src (ps * (4 : Int32)) q2 q3) = q3 from if_neg hd] at k
        have R424 : ∀ t, Steps p.tables e below (T417.setTop (mkF m 91 #[.val (.int p1), .val (.long q2), .second, .val (.long q3), .second, .val (.int p4), .val (.int p5), .val (.int (2 : Int32)), .val (.int (4 : Int32)), .val (.int (4 : Int32)), .val (.int ps), .val (.ref t1), .val (.ref b1), .val (.long (own_sx (own_acc (fun j => own_dat q2 q3 (ps.toNatClampNeg * 4 + j)) 4 4) (32 : Int32))), .second, .val (.int (ps * (4 : Int32))), .unset, .unset, .unset, .unset, .unset, .unset] [])) t → Steps p.tables e below (s₁.setTop (mkF m 0 #[.val (.int p1), .val (.long q2), .second, .val (.long q3), .second, .val (.int p4), .val (.int p5), .unset, .unset, .unset, .unset, .unset, .unset, .unset, .unset, .unset, .unset, .unset, .unset, .unset, .unset, .unset] [])) t := by
          intro t k
          refine R420 t ?_
          refine XS.icmpYes X417.here hx rfl (pc0 := 84) (pc' := 91) rfl (hb hby at_84) rfl (flt hd).2.1 (by decide) (by decide) ?_
          exact k
        have R425 : ∀ t, Steps p.tables e below (T417.setTop (mkF m 92 #[.val (.int p1), .val (.long q2), .second, .val (.long q3), .second, .val (.int p4), .val (.int p5), .val (.int (2 : Int32)), .val (.int (4 : Int32)), .val (.int (4 : Int32)), .val (.int ps), .val (.ref t1), .val (.ref b1), .val (.long (own_sx (own_acc (fun j => own_dat q2 q3 (ps.toNatClampNeg * 4 + j)) 4 4) (32 : Int32))), .second, .val (.int (ps * (4 : Int32))), .unset, .unset, .unset, .unset, .unset, .unset] [(.long q3)])) t → Steps p.tables e below (s₁.setTop (mkF m 0 #[.val (.int p1), .val (.long q2), .second, .val (.long q3), .second, .val (.int p4), .val (.int p5), .unset, .unset, .unset, .unset, .unset, .unset, .unset, .unset, .unset, .unset, .unset, .unset, .unset, .unset, .unset] [])) t := by
          intro t k
          refine R424 t ?_
          refine XS.lloadN X417.here hx rfl (hb hby at_91) rfl ?_
          exact k
        exact R425 t k
    have R426 : ∀ t, Steps p.tables e below (T417.setTop (mkF m 110 #[.val (.int p1), .val (.long q2), .second, .val (.long q3), .second, .val (.int p4), .val (.int p5), .val (.int (2 : Int32)), .val (.int (4 : Int32)), .val (.int (4 : Int32)), .val (.int ps), .val (.ref t1), .val (.ref b1), .val (.long (own_sx (own_acc (fun j => own_dat q2 q3 (ps.toNatClampNeg * 4 + j)) 4 4) (32 : Int32))), .second, .val (.int (ps * (4 : Int32))), .val (.long (own_src (ps * (4 : Int32)) q2 q3)), .second, .val (.long (own_x (ps * (4 : Int32)) q2 q3)), .second, .unset, .unset] [(.int (1 : Int32)), (.int (4 : Int32))])) t → Steps p.tables e below (s₁.setTop (mkF m 0 #[.val (.int p1), .val (.long q2), .second, .val (.long q3), .second, .val (.int p4), .val (.int p5), .unset, .unset, .unset, .unset, .unset, .unset, .unset, .unset, .unset, .unset, .unset, .unset, .unset, .unset, .unset] [])) t := by
      intro t k
      refine R421 t ?_
      refine XS.lstore X417.here hx rfl (hb hby at_92) rfl (l' := #[.val (.int p1), .val (.long q2), .second, .val (.long q3), .second, .val (.int p4), .val (.int p5), .val (.int (2 : Int32)), .val (.int (4 : Int32)), .val (.int (4 : Int32)), .val (.int ps), .val (.ref t1), .val (.ref b1), .val (.long (own_sx (own_acc (fun j => own_dat q2 q3 (ps.toNatClampNeg * 4 + j)) 4 4) (32 : Int32))), .second, .val (.int (ps * (4 : Int32))), .val (.long (own_src (ps * (4 : Int32)) q2 q3)), .second, .unset, .unset, .unset, .unset]) rfl ?_
      refine XS.lload X417.here hx rfl (hb hby at_94) rfl ?_
      refine XS.iload X417.here hx rfl (hb hby at_96) rfl ?_
      refine XS.bipush X417.here hx rfl (hb hby at_98) ?_
      refine XS.iand X417.here hx rfl (hb hby at_100) rfl ?_
      refine XS.bipush X417.here hx rfl (hb hby at_101) ?_
      refine XS.imul X417.here hx rfl (hb hby at_103) rfl ?_
      refine XS.lushr X417.here hx rfl (hb hby at_104) rfl ?_
      refine XS.lstore X417.here hx rfl (hb hby at_105) rfl (l' := #[.val (.int p1), .val (.long q2), .second, .val (.long q3), .second, .val (.int p4), .val (.int p5), .val (.int (2 : Int32)), .val (.int (4 : Int32)), .val (.int (4 : Int32)), .val (.int ps), .val (.ref t1), .val (.ref b1), .val (.long (own_sx (own_acc (fun j => own_dat q2 q3 (ps.toNatClampNeg * 4 + j)) 4 4) (32 : Int32))), .second, .val (.int (ps * (4 : Int32))), .val (.long (own_src (ps * (4 : Int32)) q2 q3)), .second, .val (.long (own_x (ps * (4 : Int32)) q2 q3)), .second, .unset, .unset]) rfl ?_
      refine XS.iload X417.here hx rfl (hb hby at_107) rfl ?_
      refine XS.iconst X417.here hx rfl (hb hby at_109) ?_
      exact k
    have R427 : ∀ t, Steps p.tables e below (T417.setTop (mkF m 123 #[.val (.int p1), .val (.long q2), .second, .val (.long q3), .second, .val (.int p4), .val (.int p5), .val (.int (2 : Int32)), .val (.int (4 : Int32)), .val (.int (4 : Int32)), .val (.int ps), .val (.ref t1), .val (.ref b1), .val (.long (own_sx (own_acc (fun j => own_dat q2 q3 (ps.toNatClampNeg * 4 + j)) 4 4) (32 : Int32))), .second, .val (.int (ps * (4 : Int32))), .val (.long (own_src (ps * (4 : Int32)) q2 q3)), .second, .val (.long (own_x (ps * (4 : Int32)) q2 q3)), .second, .unset, .unset] [])) t → Steps p.tables e below (s₁.setTop (mkF m 0 #[.val (.int p1), .val (.long q2), .second, .val (.long q3), .second, .val (.int p4), .val (.int p5), .unset, .unset, .unset, .unset, .unset, .unset, .unset, .unset, .unset, .unset, .unset, .unset, .unset, .unset, .unset] [])) t := by
      intro t k
      refine R426 t ?_
      refine XS.icmpYes X417.here hx rfl (pc0 := 110) (pc' := 123) rfl (hb hby at_110) rfl (feq (by decide)).2 (by decide) (by decide) ?_
      exact k
    have R428 : ∀ t, Steps p.tables e below (T417.setTop (mkF m 126 #[.val (.int p1), .val (.long q2), .second, .val (.long q3), .second, .val (.int p4), .val (.int p5), .val (.int (2 : Int32)), .val (.int (4 : Int32)), .val (.int (4 : Int32)), .val (.int ps), .val (.ref t1), .val (.ref b1), .val (.long (own_sx (own_acc (fun j => own_dat q2 q3 (ps.toNatClampNeg * 4 + j)) 4 4) (32 : Int32))), .second, .val (.int (ps * (4 : Int32))), .val (.long (own_src (ps * (4 : Int32)) q2 q3)), .second, .val (.long (own_x (ps * (4 : Int32)) q2 q3)), .second, .unset, .unset] [(.int (2 : Int32)), (.int (4 : Int32))])) t → Steps p.tables e below (s₁.setTop (mkF m 0 #[.val (.int p1), .val (.long q2), .second, .val (.long q3), .second, .val (.int p4), .val (.int p5), .unset, .unset, .unset, .unset, .unset, .unset, .unset, .unset, .unset, .unset, .unset, .unset, .unset, .unset, .unset] [])) t := by
      intro t k
      refine R427 t ?_
      refine XS.iload X417.here hx rfl (hb hby at_123) rfl ?_
      refine XS.iconst X417.here hx rfl (hb hby at_125) ?_
      exact k
    have R429 : ∀ t, Steps p.tables e below (T417.setTop (mkF m 139 #[.val (.int p1), .val (.long q2), .second, .val (.long q3), .second, .val (.int p4), .val (.int p5), .val (.int (2 : Int32)), .val (.int (4 : Int32)), .val (.int (4 : Int32)), .val (.int ps), .val (.ref t1), .val (.ref b1), .val (.long (own_sx (own_acc (fun j => own_dat q2 q3 (ps.toNatClampNeg * 4 + j)) 4 4) (32 : Int32))), .second, .val (.int (ps * (4 : Int32))), .val (.long (own_src (ps * (4 : Int32)) q2 q3)), .second, .val (.long (own_x (ps * (4 : Int32)) q2 q3)), .second, .unset, .unset] [])) t → Steps p.tables e below (s₁.setTop (mkF m 0 #[.val (.int p1), .val (.long q2), .second, .val (.long q3), .second, .val (.int p4), .val (.int p5), .unset, .unset, .unset, .unset, .unset, .unset, .unset, .unset, .unset, .unset, .unset, .unset, .unset, .unset, .unset] [])) t := by
      intro t k
      refine R428 t ?_
      refine XS.icmpYes X417.here hx rfl (pc0 := 126) (pc' := 139) rfl (hb hby at_126) rfl (feq (by decide)).2 (by decide) (by decide) ?_
      exact k
    have R430 : ∀ t, Steps p.tables e below (T417.setTop (mkF m 142 #[.val (.int p1), .val (.long q2), .second, .val (.long q3), .second, .val (.int p4), .val (.int p5), .val (.int (2 : Int32)), .val (.int (4 : Int32)), .val (.int (4 : Int32)), .val (.int ps), .val (.ref t1), .val (.ref b1), .val (.long (own_sx (own_acc (fun j => own_dat q2 q3 (ps.toNatClampNeg * 4 + j)) 4 4) (32 : Int32))), .second, .val (.int (ps * (4 : Int32))), .val (.long (own_src (ps * (4 : Int32)) q2 q3)), .second, .val (.long (own_x (ps * (4 : Int32)) q2 q3)), .second, .unset, .unset] [(.int (4 : Int32)), (.int (4 : Int32))])) t → Steps p.tables e below (s₁.setTop (mkF m 0 #[.val (.int p1), .val (.long q2), .second, .val (.long q3), .second, .val (.int p4), .val (.int p5), .unset, .unset, .unset, .unset, .unset, .unset, .unset, .unset, .unset, .unset, .unset, .unset, .unset, .unset, .unset] [])) t := by
      intro t k
      refine R429 t ?_
      refine XS.iload X417.here hx rfl (hb hby at_139) rfl ?_
      refine XS.iconst X417.here hx rfl (hb hby at_141) ?_
      exact k
    have R431 : ∀ t, Steps p.tables e below (T417.setTop (mkF m 145 #[.val (.int p1), .val (.long q2), .second, .val (.long q3), .second, .val (.int p4), .val (.int p5), .val (.int (2 : Int32)), .val (.int (4 : Int32)), .val (.int (4 : Int32)), .val (.int ps), .val (.ref t1), .val (.ref b1), .val (.long (own_sx (own_acc (fun j => own_dat q2 q3 (ps.toNatClampNeg * 4 + j)) 4 4) (32 : Int32))), .second, .val (.int (ps * (4 : Int32))), .val (.long (own_src (ps * (4 : Int32)) q2 q3)), .second, .val (.long (own_x (ps * (4 : Int32)) q2 q3)), .second, .unset, .unset] [])) t → Steps p.tables e below (s₁.setTop (mkF m 0 #[.val (.int p1), .val (.long q2), .second, .val (.long q3), .second, .val (.int p4), .val (.int p5), .unset, .unset, .unset, .unset, .unset, .unset, .unset, .unset, .unset, .unset, .unset, .unset, .unset, .unset, .unset] [])) t := by
      intro t k
      refine R430 t ?_
      refine XS.icmpNo X417.here hx rfl (hb hby at_142) rfl (teq rfl).2 ?_
      exact k
    have R432 : ∀ t, Steps p.tables e below (T417.setTop (mkF m 163 #[.val (.int p1), .val (.long q2), .second, .val (.long q3), .second, .val (.int p4), .val (.int p5), .val (.int (2 : Int32)), .val (.int (4 : Int32)), .val (.int (4 : Int32)), .val (.int ps), .val (.ref t1), .val (.ref b1), .val (.long (own_sx (own_acc (fun j => own_dat q2 q3 (ps.toNatClampNeg * 4 + j)) 4 4) (32 : Int32))), .second, .val (.int (ps * (4 : Int32))), .val (.long (own_src (ps * (4 : Int32)) q2 q3)), .second, .val (.long (own_x (ps * (4 : Int32)) q2 q3)), .second, .val (.long (((((own_x (ps * (4 : Int32)) q2 q3)).toInt32)).toInt64)), .second] [(.int (lcmpW (own_sx (own_acc (fun j => own_dat q2 q3 (ps.toNatClampNeg * 4 + j)) 4 4) (32 : Int32)) (((((own_x (ps * (4 : Int32)) q2 q3)).toInt32)).toInt64)))])) t → Steps p.tables e below (s₁.setTop (mkF m 0 #[.val (.int p1), .val (.long q2), .second, .val (.long q3), .second, .val (.int p4), .val (.int p5), .unset, .unset, .unset, .unset, .unset, .unset, .unset, .unset, .unset, .unset, .unset, .unset, .unset, .unset, .unset] [])) t := by
      intro t k
      refine R431 t ?_
      refine XS.lload X417.here hx rfl (hb hby at_145) rfl ?_
      refine XS.l2i X417.here hx rfl (hb hby at_147) rfl ?_
      refine XS.i2l X417.here hx rfl (hb hby at_148) rfl ?_
      refine XS.lstore X417.here hx rfl (hb hby at_149) rfl (l' := #[.val (.int p1), .val (.long q2), .second, .val (.long q3), .second, .val (.int p4), .val (.int p5), .val (.int (2 : Int32)), .val (.int (4 : Int32)), .val (.int (4 : Int32)), .val (.int ps), .val (.ref t1), .val (.ref b1), .val (.long (own_sx (own_acc (fun j => own_dat q2 q3 (ps.toNatClampNeg * 4 + j)) 4 4) (32 : Int32))), .second, .val (.int (ps * (4 : Int32))), .val (.long (own_src (ps * (4 : Int32)) q2 q3)), .second, .val (.long (own_x (ps * (4 : Int32)) q2 q3)), .second, .val (.long (((((own_x (ps * (4 : Int32)) q2 q3)).toInt32)).toInt64)), .second]) rfl ?_
      refine XS.goto X417.here hx rfl (pc0 := 151) (pc' := 158) rfl (hb hby at_151) (by decide) (by decide) ?_
      refine XS.lload X417.here hx rfl (hb hby at_158) rfl ?_
      refine XS.lload X417.here hx rfl (hb hby at_160) rfl ?_
      refine XS.lcmp X417.here hx rfl (hb hby at_162) rfl ?_
      exact k
    have R433 : ∀ t, Steps p.tables e below (T417.setTop (mkF m 166 #[.val (.int p1), .val (.long q2), .second, .val (.long q3), .second, .val (.int p4), .val (.int p5), .val (.int (2 : Int32)), .val (.int (4 : Int32)), .val (.int (4 : Int32)), .val (.int ps), .val (.ref t1), .val (.ref b1), .val (.long (own_sx (own_acc (fun j => own_dat q2 q3 (ps.toNatClampNeg * 4 + j)) 4 4) (32 : Int32))), .second, .val (.int (ps * (4 : Int32))), .val (.long (own_src (ps * (4 : Int32)) q2 q3)), .second, .val (.long (own_x (ps * (4 : Int32)) q2 q3)), .second, .val (.long (((((own_x (ps * (4 : Int32)) q2 q3)).toInt32)).toInt64)), .second] [])) t → Steps p.tables e below (s₁.setTop (mkF m 0 #[.val (.int p1), .val (.long q2), .second, .val (.long q3), .second, .val (.int p4), .val (.int p5), .unset, .unset, .unset, .unset, .unset, .unset, .unset, .unset, .unset, .unset, .unset, .unset, .unset, .unset, .unset] [])) t := by
      intro t k
      refine R432 t ?_
      refine XS.ifNo X417.here hx rfl (hb hby at_163) rfl ((if0 _ _).trans (teq ((lw_eq _ _).mpr (own_law2 q2 q3 ps hps))).2) ?_
      exact k
    have R434 : ∀ t, Steps p.tables e below (T417.setTop (mkF m 171 #[.val (.int p1), .val (.long q2), .second, .val (.long q3), .second, .val (.int p4), .val (.int p5), .val (.int (2 : Int32)), .val (.int (4 : Int32)), .val (.int (4 : Int32)), .val (.int ps), .val (.ref t1), .val (.ref b1), .val (.long (own_sx (own_acc (fun j => own_dat q2 q3 (ps.toNatClampNeg * 4 + j)) 4 4) (32 : Int32))), .second, .val (.int (ps * (4 : Int32))), .val (.long (own_src (ps * (4 : Int32)) q2 q3)), .second, .val (.long (own_x (ps * (4 : Int32)) q2 q3)), .second, .val (.long (((((own_x (ps * (4 : Int32)) q2 q3)).toInt32)).toInt64)), .second] [(.int (1 : Int32))])) t → Steps p.tables e below (s₁.setTop (mkF m 0 #[.val (.int p1), .val (.long q2), .second, .val (.long q3), .second, .val (.int p4), .val (.int p5), .unset, .unset, .unset, .unset, .unset, .unset, .unset, .unset, .unset, .unset, .unset, .unset, .unset, .unset, .unset] [])) t := by
      intro t k
      refine R433 t ?_
      refine XS.iconst X417.here hx rfl (hb hby at_166) ?_
      refine XS.goto X417.here hx rfl (pc0 := 167) (pc' := 171) rfl (hb hby at_167) (by decide) (by decide) ?_
      exact k
    obtain ⟨fs, hr, hrun, hended, hW, hsame⟩ := X417.leave (v := some (.int (1 : Int32))) (fun h => by rw [Bd.returns] at h; cases h)
    refine ⟨_, _, pre0 _ (R434 _ (retN X417 hx (t := .boolean) Bd.returns (by simp) (hb hby at_171) hr)), hrun, hended, _, _, rfl, ?_, ⟨_, rfl⟩, hW, hsame.mono (by decide) (by decide)⟩
    show Q_rm0 Z p1 q2 q3 p4 p5  h0 n0 _ T417.heap _
    rw [e417]
    exact ⟨rfl, N417⟩
  · have R435 : ∀ t, Steps p.tables e below (s₁.setTop (mkF m 26 #[.val (.int p1), .val (.long q2), .second, .val (.long q3), .second, .val (.int p4), .val (.int p5), .val (.int (3 : Int32)), .val (.int (8 : Int32)), .val (.int (2 : Int32)), .unset, .unset, .unset, .unset, .unset, .unset, .unset, .unset, .unset, .unset, .unset, .unset] [(.int ((p4 &&& (2147483647 : Int32)) - ((p4 &&& (2147483647 : Int32)) / (2 : Int32)) * (2 : Int32)))])) t → Steps p.tables e below (s₁.setTop (mkF m 0 #[.val (.int p1), .val (.long q2), .second, .val (.long q3), .second, .val (.int p4), .val (.int p5), .unset, .unset, .unset, .unset, .unset, .unset, .unset, .unset, .unset, .unset, .unset, .unset, .unset, .unset, .unset] [])) t := by
      intro t k
      refine R317 t ?_
      refine XS.iconst X0.here hx rfl (hb hby at_5) ?_
      refine XS.iload X0.here hx rfl (hb hby at_6) rfl ?_
      refine XS.ishl X0.here hx rfl (hb hby at_8) rfl ?_
      refine XS.istore X0.here hx rfl (hb hby at_9) rfl (l' := #[.val (.int p1), .val (.long q2), .second, .val (.long q3), .second, .val (.int p4), .val (.int p5), .val (.int (3 : Int32)), .val (.int (8 : Int32)), .unset, .unset, .unset, .unset, .unset, .unset, .unset, .unset, .unset, .unset, .unset, .unset, .unset]) rfl ?_
      refine XS.bipush X0.here hx rfl (hb hby at_11) ?_
      refine XS.iload X0.here hx rfl (hb hby at_13) rfl ?_
      refine XS.ishr X0.here hx rfl (hb hby at_15) rfl ?_
      refine XS.istore X0.here hx rfl (hb hby at_16) rfl (l' := #[.val (.int p1), .val (.long q2), .second, .val (.long q3), .second, .val (.int p4), .val (.int p5), .val (.int (3 : Int32)), .val (.int (8 : Int32)), .val (.int (2 : Int32)), .unset, .unset, .unset, .unset, .unset, .unset, .unset, .unset, .unset, .unset, .unset, .unset]) rfl ?_
      refine XS.iload X0.here hx rfl (hb hby at_18) rfl ?_
      refine X0.ldcInt hx hown (mvT hZ (hw _ (List.mem_of_getElem? (i := 0) rfl))) (g := (mkF m 20 #[.val (.int p1), .val (.long q2), .second, .val (.long q3), .second, .val (.int p4), .val (.int p5), .val (.int (3 : Int32)), .val (.int (8 : Int32)), .val (.int (2 : Int32)), .unset, .unset, .unset, .unset, .unset, .unset, .unset, .unset, .unset, .unset, .unset, .unset] [(.int p4)])) rfl (hb hby at_20) _ ?_
      refine XS.iand X0.here hx rfl (hb hby at_22) rfl ?_
      refine XS.iload X0.here hx rfl (hb hby at_23) rfl ?_
      refine XS.irem X0.here hx rfl (hb hby at_25) rfl (by decide) ?_
      exact k
    obtain ⟨ps, h_ps⟩ : ∃ z : Int32, z = ((p4 &&& (2147483647 : Int32)) - ((p4 &&& (2147483647 : Int32)) / (2 : Int32)) * (2 : Int32)) := ⟨_, rfl⟩
    have R436 : ∀ t, Steps p.tables e below (s₁.setTop (mkF m 26 #[.val (.int p1), .val (.long q2), .second, .val (.long q3), .second, .val (.int p4), .val (.int p5), .val (.int (3 : Int32)), .val (.int (8 : Int32)), .val (.int (2 : Int32)), .unset, .unset, .unset, .unset, .unset, .unset, .unset, .unset, .unset, .unset, .unset, .unset] [(.int ps)])) t → Steps p.tables e below (s₁.setTop (mkF m 0 #[.val (.int p1), .val (.long q2), .second, .val (.long q3), .second, .val (.int p4), .val (.int p5), .unset, .unset, .unset, .unset, .unset, .unset, .unset, .unset, .unset, .unset, .unset, .unset, .unset, .unset, .unset] [])) t := by rw [h_ps]; exact R435
    have hps : 0 ≤ ps.toInt ∧ ps.toInt < 2 := by rw [h_ps]; exact own_pos3 p4
    have R437 : ∀ t, Steps p.tables e below (s₁.setTop (mkF m 30 #[.val (.int p1), .val (.long q2), .second, .val (.long q3), .second, .val (.int p4), .val (.int p5), .val (.int (3 : Int32)), .val (.int (8 : Int32)), .val (.int (2 : Int32)), .val (.int ps), .unset, .unset, .unset, .unset, .unset, .unset, .unset, .unset, .unset, .unset, .unset] [(.int (16 : Int32))])) t → Steps p.tables e below (s₁.setTop (mkF m 0 #[.val (.int p1), .val (.long q2), .second, .val (.long q3), .second, .val (.int p4), .val (.int p5), .unset, .unset, .unset, .unset, .unset, .unset, .unset, .unset, .unset, .unset, .unset, .unset, .unset, .unset, .unset] [])) t := by
      intro t k
      refine R436 t ?_
      refine XS.istore X0.here hx rfl (hb hby at_26) rfl (l' := #[.val (.int p1), .val (.long q2), .second, .val (.long q3), .second, .val (.int p4), .val (.int p5), .val (.int (3 : Int32)), .val (.int (8 : Int32)), .val (.int (2 : Int32)), .val (.int ps), .unset, .unset, .unset, .unset, .unset, .unset, .unset, .unset, .unset, .unset, .unset]) rfl ?_
      refine XS.bipush X0.here hx rfl (hb hby at_28) ?_
      exact k
    obtain ⟨T438, h438, c438, X438, e438, x438, B438, st438⟩ := newP X0 hx hZ (hw _ (List.mem_of_getElem? (i := 1) rfl)) e0 (g := (mkF m 30 #[.val (.int p1), .val (.long q2), .second, .val (.long q3), .second, .val (.int p4), .val (.int p5), .val (.int (3 : Int32)), .val (.int (8 : Int32)), .val (.int (2 : Int32)), .val (.int ps), .unset, .unset, .unset, .unset, .unset, .unset, .unset, .unset, .unset, .unset, .unset] [(.int (16 : Int32))])) rfl (hb hby at_30) rfl (by decide) (cap := 16) (by decide) (by decide) (by decide) (by decide)
    obtain ⟨t1, g_t1⟩ : ∃ z, z = h0.size := ⟨_, rfl⟩
    rw [← g_t1] at B438 st438
    have n_t1 : n0 ≤ t1 := Nat.le_trans Z0 (Nat.le_of_eq g_t1.symm)
    have Z438 : n0 ≤ h438.size := Nat.le_trans Z0 x438.1
    have V438 : Arv Z h438 t1 c438 .byte (16 : Int32) [(.int (0 : Int32)), (.int (0 : Int32)), (.int (0 : Int32)), (.int (0 : Int32)), (.int (0 : Int32)), (.int (0 : Int32)), (.int (0 : Int32)), (.int (0 : Int32)), (.int (0 : Int32)), (.int (0 : Int32)), (.int (0 : Int32)), (.int (0 : Int32)), (.int (0 : Int32)), (.int (0 : Int32)), (.int (0 : Int32)), (.int (0 : Int32))] (.int (0 : Int32)) := (Arv.new B438 (by decide)).pad (pad_rep [] (.int (0 : Int32)) 16)
    have R439 : ∀ t, Steps p.tables e below (T438.setTop (mkF m 32 #[.val (.int p1), .val (.long q2), .second, .val (.long q3), .second, .val (.int p4), .val (.int p5), .val (.int (3 : Int32)), .val (.int (8 : Int32)), .val (.int (2 : Int32)), .val (.int ps), .unset, .unset, .unset, .unset, .unset, .unset, .unset, .unset, .unset, .unset, .unset] [(.ref t1)])) t → Steps p.tables e below (s₁.setTop (mkF m 0 #[.val (.int p1), .val (.long q2), .second, .val (.long q3), .second, .val (.int p4), .val (.int p5), .unset, .unset, .unset, .unset, .unset, .unset, .unset, .unset, .unset, .unset, .unset, .unset, .unset, .unset, .unset] [])) t := fun t k => R437 t (st438 _ k)
    have R440 : ∀ t, Steps p.tables e below (T438.setTop (mkF m 38 #[.val (.int p1), .val (.long q2), .second, .val (.long q3), .second, .val (.int p4), .val (.int p5), .val (.int (3 : Int32)), .val (.int (8 : Int32)), .val (.int (2 : Int32)), .val (.int ps), .val (.ref t1), .unset, .unset, .unset, .unset, .unset, .unset, .unset, .unset, .unset, .unset] [(.long q2), (.int (0 : Int32)), (.ref t1)])) t → Steps p.tables e below (s₁.setTop (mkF m 0 #[.val (.int p1), .val (.long q2), .second, .val (.long q3), .second, .val (.int p4), .val (.int p5), .unset, .unset, .unset, .unset, .unset, .unset, .unset, .unset, .unset, .unset, .unset, .unset, .unset, .unset, .unset] [])) t := by
      intro t k
      refine R439 t ?_
      refine XS.astore X438.here hx rfl (hb hby at_32) rfl rfl (l' := #[.val (.int p1), .val (.long q2), .second, .val (.long q3), .second, .val (.int p4), .val (.int p5), .val (.int (3 : Int32)), .val (.int (8 : Int32)), .val (.int (2 : Int32)), .val (.int ps), .val (.ref t1), .unset, .unset, .unset, .unset, .unset, .unset, .unset, .unset, .unset, .unset]) rfl ?_
      refine XS.aload X438.here hx rfl (hb hby at_34) rfl rfl ?_
      refine XS.iconst X438.here hx rfl (hb hby at_36) ?_
      refine XS.lloadN X438.here hx rfl (hb hby at_37) rfl ?_
      exact k
    obtain ⟨_, _, ⟨T441, L441, k441, n441⟩, -, X441, ⟨Lc441, hQ441, l441, y441, z441⟩, st441⟩ := Jvm.LawKit.callS X438 hx (y := (⟨"com/example/rigorous_bytecode/rigorousbytecode/dex/ArrayDataPayloadElementPinLaw", "put", "([BIJ)V"⟩ : MethodName)) hown (mvT hZ (hw _ (List.mem_of_getElem? (i := 2) rfl))) (mvT hZ (hw _ (List.mem_of_getElem? (i := 3) rfl))) (mvT hZ (hw _ (List.mem_of_getElem? (i := 4) rfl))) (mvT hZ (hw _ (List.mem_of_getElem? (i := 5) rfl))) (by decide) (backOf (W := 0) (rmp0 l Z a0 hw [] t1 q2 c438  h438 n0 Z438 V438 n_t1) hZ (hw _ (List.mem_of_getElem? (i := 5) rfl)) (hw _ (List.mem_of_getElem? (i := 4) rfl)) (by decide) (by decide)) (g := (mkF m 38 #[.val (.int p1), .val (.long q2), .second, .val (.long q3), .second, .val (.int p4), .val (.int p5), .val (.int (3 : Int32)), .val (.int (8 : Int32)), .val (.int (2 : Int32)), .val (.int ps), .val (.ref t1), .unset, .unset, .unset, .unset, .unset, .unset, .unset, .unset, .unset, .unset] [(.long q2), (.int (0 : Int32)), (.ref t1)])) rfl (by rw [hml]; rfl) (argsL := [(.ref t1), (.int (0 : Int32)), (.long q2)]) (rest := []) (lenOf pd_1 rfl) rfl (by show 2 * 0 + _ ≤ _; exact Nat.le_of_eq rfl) (hb hby at_38) (fun _ _ => ⟨rfl, e438, (by decide : 1 + 0 ≤ _), (by decide : 16 + 0 ≤ _)⟩)
    dsimp only [Pt.U, Pt.locs, Pt.cells, Pt.slots] at X441 l441 y441 z441 st441 hQ441
    subst l441 y441 z441
    obtain ⟨rfl, M441, J441, Vp441⟩ := hQ441
    have Z441 : n0 ≤ T441.heap.size := Nat.le_trans Z438 J441.1
    have N441 := Fr.app N0 M441
    have R442 : ∀ t, Steps p.tables e below (T441.setTop (mkF m 41 #[.val (.int p1), .val (.long q2), .second, .val (.long q3), .second, .val (.int p4), .val (.int p5), .val (.int (3 : Int32)), .val (.int (8 : Int32)), .val (.int (2 : Int32)), .val (.int ps), .val (.ref t1), .unset, .unset, .unset, .unset, .unset, .unset, .unset, .unset, .unset, .unset] [])) t → Steps p.tables e below (s₁.setTop (mkF m 0 #[.val (.int p1), .val (.long q2), .second, .val (.long q3), .second, .val (.int p4), .val (.int p5), .unset, .unset, .unset, .unset, .unset, .unset, .unset, .unset, .unset, .unset, .unset, .unset, .unset, .unset, .unset] [])) t := fun t k => R440 t (st441 _ k)
    have R443 : ∀ t, Steps p.tables e below (T441.setTop (mkF m 46 #[.val (.int p1), .val (.long q2), .second, .val (.long q3), .second, .val (.int p4), .val (.int p5), .val (.int (3 : Int32)), .val (.int (8 : Int32)), .val (.int (2 : Int32)), .val (.int ps), .val (.ref t1), .unset, .unset, .unset, .unset, .unset, .unset, .unset, .unset, .unset, .unset] [(.long q3), (.int (8 : Int32)), (.ref t1)])) t → Steps p.tables e below (s₁.setTop (mkF m 0 #[.val (.int p1), .val (.long q2), .second, .val (.long q3), .second, .val (.int p4), .val (.int p5), .unset, .unset, .unset, .unset, .unset, .unset, .unset, .unset, .unset, .unset, .unset, .unset, .unset, .unset, .unset] [])) t := by
      intro t k
      refine R442 t ?_
      refine XS.aload X441.here hx rfl (hb hby at_41) rfl rfl ?_
      refine XS.bipush X441.here hx rfl (hb hby at_43) ?_
      refine XS.lloadN X441.here hx rfl (hb hby at_45) rfl ?_
      exact k
    obtain ⟨_, _, ⟨T444, L444, k444, n444⟩, -, X444, ⟨Lc444, hQ444, l444, y444, z444⟩, st444⟩ := Jvm.LawKit.callS X441 hx (y := (⟨"com/example/rigorous_bytecode/rigorousbytecode/dex/ArrayDataPayloadElementPinLaw", "put", "([BIJ)V"⟩ : MethodName)) hown (mvT hZ (hw _ (List.mem_of_getElem? (i := 2) rfl))) (mvT hZ (hw _ (List.mem_of_getElem? (i := 3) rfl))) (mvT hZ (hw _ (List.mem_of_getElem? (i := 4) rfl))) (mvT hZ (hw _ (List.mem_of_getElem? (i := 5) rfl))) (by decide) (backOf (W := 0) (rmp8 l Z a0 hw [] t1 q3 c438 (.int (own_b0 q2)) (.int (own_b q2 (8 : Int32))) (.int (own_b q2 (16 : Int32))) (.int (own_b q2 (24 : Int32))) (.int (own_b q2 (32 : Int32))) (.int (own_b q2 (40 : Int32))) (.int (own_b q2 (48 : Int32))) (.int (own_b q2 (56 : Int32))) T441.heap n0 Z441 Vp441 n_t1) hZ (hw _ (List.mem_of_getElem? (i := 5) rfl)) (hw _ (List.mem_of_getElem? (i := 4) rfl)) (by decide) (by decide)) (g := (mkF m 46 #[.val (.int p1), .val (.long q2), .second, .val (.long q3), .second, .val (.int p4), .val (.int p5), .val (.int (3 : Int32)), .val (.int (8 : Int32)), .val (.int (2 : Int32)), .val (.int ps), .val (.ref t1), .unset, .unset, .unset, .unset, .unset, .unset, .unset, .unset, .unset, .unset] [(.long q3), (.int (8 : Int32)), (.ref t1)])) rfl (by rw [hml]; rfl) (argsL := [(.ref t1), (.int (8 : Int32)), (.long q3)]) (rest := []) (lenOf pd_1 rfl) rfl (by show 2 * 0 + _ ≤ _; exact Nat.le_of_eq rfl) (hb hby at_46) (fun _ _ => ⟨rfl, rfl, (by decide : 1 + 0 ≤ _), (by decide : 16 + 0 ≤ _)⟩)
    dsimp only [Pt.U, Pt.locs, Pt.cells, Pt.slots] at X444 l444 y444 z444 st444 hQ444
    subst l444 y444 z444
    obtain ⟨rfl, M444, J444, Vp444⟩ := hQ444
    have Z444 : n0 ≤ T444.heap.size := Nat.le_trans Z441 J444.1
    have N444 := Fr.app N441 M444
    have R445 : ∀ t, Steps p.tables e below (T444.setTop (mkF m 49 #[.val (.int p1), .val (.long q2), .second, .val (.long q3), .second, .val (.int p4), .val (.int p5), .val (.int (3 : Int32)), .val (.int (8 : Int32)), .val (.int (2 : Int32)), .val (.int ps), .val (.ref t1), .unset, .unset, .unset, .unset, .unset, .unset, .unset, .unset, .unset, .unset] [])) t → Steps p.tables e below (s₁.setTop (mkF m 0 #[.val (.int p1), .val (.long q2), .second, .val (.long q3), .second, .val (.int p4), .val (.int p5), .unset, .unset, .unset, .unset, .unset, .unset, .unset, .unset, .unset, .unset, .unset, .unset, .unset, .unset, .unset] [])) t := fun t k => R443 t (st444 _ k)
    obtain ⟨T446, h446, X446, e446, x446, A446, D446, -, st446⟩ := newO X444 hx hZ hown (hw _ (List.mem_of_getElem? (i := 6) rfl)) (hw _ (List.mem_of_getElem? (i := 7) rfl)) (hw _ (List.mem_of_getElem? (i := 8) rfl)) rfl (g := (mkF m 49 #[.val (.int p1), .val (.long q2), .second, .val (.long q3), .second, .val (.int p4), .val (.int p5), .val (.int (3 : Int32)), .val (.int (8 : Int32)), .val (.int (2 : Int32)), .val (.int ps), .val (.ref t1), .unset, .unset, .unset, .unset, .unset, .unset, .unset, .unset, .unset, .unset] [])) rfl (hb hby at_49) (by decide) (by decide)
    obtain ⟨b1, g_b1⟩ : ∃ z, z = T444.heap.size := ⟨_, rfl⟩
    rw [← g_b1] at A446 D446 st446
    have ne_t1_b1 : t1 ≠ b1 := Nat.ne_of_lt (Nat.lt_of_lt_of_eq Vp444.lt g_b1.symm)
    have n_b1 : n0 ≤ b1 := Nat.le_trans Z444 (Nat.le_of_eq g_b1.symm)
    have Z446 : n0 ≤ h446.size := Nat.le_trans Z444 x446.1
    have A_447 : Arv Z h446 t1 c438 .byte (16 : Int32) [(.int (own_b0 q2)), (.int (own_b q2 (8 : Int32))), (.int (own_b q2 (16 : Int32))), (.int (own_b q2 (24 : Int32))), (.int (own_b q2 (32 : Int32))), (.int (own_b q2 (40 : Int32))), (.int (own_b q2 (48 : Int32))), (.int (own_b q2 (56 : Int32))), (.int (own_b0 q3)), (.int (own_b q3 (8 : Int32))), (.int (own_b q3 (16 : Int32))), (.int (own_b q3 (24 : Int32))), (.int (own_b q3 (32 : Int32))), (.int (own_b q3 (40 : Int32))), (.int (own_b q3 (48 : Int32))), (.int (own_b q3 (56 : Int32)))] (.int (0 : Int32)) := Vp444.ext x446
    have F_448 : Fld Z h446 b1 "com/example/rigorous_bytecode/rigorousbytecode/dex/ArrayDataPayload" "offset" "I" (.int (0 : Int32)) := D446 (Or.inr (hw _ (List.mem_of_getElem? (i := 21) rfl))) (ty := .int) (by decide)
    have F_449 : Fld Z h446 b1 "com/example/rigorous_bytecode/rigorousbytecode/dex/ArrayDataPayload" "elementWidth" "I" (.int (0 : Int32)) := D446 (Or.inr (hw _ (List.mem_of_getElem? (i := 23) rfl))) (ty := .int) (by decide)
    have F_450 : Fld Z h446 b1 "com/example/rigorous_bytecode/rigorousbytecode/dex/ArrayDataPayload" "data" "[B" .null := D446 (Or.inr (hw _ (List.mem_of_getElem? (i := 25) rfl))) (ty := (.array .byte)) (by decide)
    have R451 : ∀ t, Steps p.tables e below (T446.setTop (mkF m 52 #[.val (.int p1), .val (.long q2), .second, .val (.long q3), .second, .val (.int p4), .val (.int p5), .val (.int (3 : Int32)), .val (.int (8 : Int32)), .val (.int (2 : Int32)), .val (.int ps), .val (.ref t1), .unset, .unset, .unset, .unset, .unset, .unset, .unset, .unset, .unset, .unset] [(.ref b1)])) t → Steps p.tables e below (s₁.setTop (mkF m 0 #[.val (.int p1), .val (.long q2), .second, .val (.long q3), .second, .val (.int p4), .val (.int p5), .unset, .unset, .unset, .unset, .unset, .unset, .unset, .unset, .unset, .unset, .unset, .unset, .unset, .unset, .unset] [])) t := fun t k => R445 t (st446 _ k)
    have R452 : ∀ t, Steps p.tables e below (T446.setTop (mkF m 59 #[.val (.int p1), .val (.long q2), .second, .val (.long q3), .second, .val (.int p4), .val (.int p5), .val (.int (3 : Int32)), .val (.int (8 : Int32)), .val (.int (2 : Int32)), .val (.int ps), .val (.ref t1), .unset, .unset, .unset, .unset, .unset, .unset, .unset, .unset, .unset, .unset] [(.ref t1), (.int (8 : Int32)), (.int p5), (.ref b1), (.ref b1)])) t → Steps p.tables e below (s₁.setTop (mkF m 0 #[.val (.int p1), .val (.long q2), .second, .val (.long q3), .second, .val (.int p4), .val (.int p5), .unset, .unset, .unset, .unset, .unset, .unset, .unset, .unset, .unset, .unset, .unset, .unset, .unset, .unset, .unset] [])) t := by
      intro t k
      refine R451 t ?_
      refine XS.dup X446.here hx rfl (hb hby at_52) rfl rfl ?_
      refine XS.iload X446.here hx rfl (hb hby at_53) rfl ?_
      refine XS.iload X446.here hx rfl (hb hby at_55) rfl ?_
      refine XS.aload X446.here hx rfl (hb hby at_57) rfl rfl ?_
      exact k
    obtain ⟨_, _, ⟨T453, L453, k453, n453⟩, -, X453, ⟨Lc453, hQ453, l453, y453, z453⟩, st453⟩ := X446.specialBack hx (y := (⟨"com/example/rigorous_bytecode/rigorousbytecode/dex/ArrayDataPayload", "<init>", "(II[B)V"⟩ : MethodName)) rfl hown (mvT hZ (hw _ (List.mem_of_getElem? (i := 9) rfl))) (mvT hZ (hw _ (List.mem_of_getElem? (i := 10) rfl))) (mvT hZ (hw _ (List.mem_of_getElem? (i := 11) rfl))) (by decide) (backOf (W := 1) (rm2 l Z a0 hw [] b1 p5 (8 : Int32) t1 (.int (0 : Int32)) (.int (0 : Int32)) .null h446 n0 Z446 A446 F_448 F_449 F_450 n_b1) hZ (hw _ (List.mem_of_getElem? (i := 11) rfl)) (hw _ (List.mem_of_getElem? (i := 8) rfl)) (by decide) (by decide)) (g := (mkF m 59 #[.val (.int p1), .val (.long q2), .second, .val (.long q3), .second, .val (.int p4), .val (.int p5), .val (.int (3 : Int32)), .val (.int (8 : Int32)), .val (.int (2 : Int32)), .val (.int ps), .val (.ref t1), .unset, .unset, .unset, .unset, .unset, .unset, .unset, .unset, .unset, .unset] [(.ref t1), (.int (8 : Int32)), (.int p5), (.ref b1), (.ref b1)])) rfl (by rw [hml]; rfl) (Steps.refl _) (a := b1) (argsL := [(.int p5), (.int (8 : Int32)), (.ref t1)]) (rest := [(.ref b1)]) (lenOf pd_2 rfl) rfl (by show 2 * 0 + _ ≤ _; exact Nat.le_of_eq rfl) (hb hby at_59) (fun _ _ => ⟨rfl, e446, (by decide : 2 + 0 ≤ _), (by decide : 19 + 0 ≤ _)⟩)
    dsimp only [Pt.U, Pt.locs, Pt.cells, Pt.slots] at X453 l453 y453 z453 st453 hQ453
    subst l453 y453 z453
    obtain ⟨rfl, M453, J453, Fa453, Fb453⟩ := hQ453
    have Z453 : n0 ≤ T453.heap.size := Nat.le_trans Z446 J453.1
    have A_454 : Arv Z T453.heap t1 c438 .byte (16 : Int32) [(.int (own_b0 q2)), (.int (own_b q2 (8 : Int32))), (.int (own_b q2 (16 : Int32))), (.int (own_b q2 (24 : Int32))), (.int (own_b q2 (32 : Int32))), (.int (own_b q2 (40 : Int32))), (.int (own_b q2 (48 : Int32))), (.int (own_b q2 (56 : Int32))), (.int (own_b0 q3)), (.int (own_b q3 (8 : Int32))), (.int (own_b q3 (16 : Int32))), (.int (own_b q3 (24 : Int32))), (.int (own_b q3 (32 : Int32))), (.int (own_b q3 (40 : Int32))), (.int (own_b q3 (48 : Int32))), (.int (own_b q3 (56 : Int32)))] (.int (0 : Int32)) := A_447.keep J453 (ninS ne_t1_b1 nin0)
    have E_455 : Exa Z T453.heap b1 "com/example/rigorous_bytecode/rigorousbytecode/dex/ArrayDataPayload" := A446.keep J453
    have N453 := Fr.app N444 M453
    have R456 : ∀ t, Steps p.tables e below (T453.setTop (mkF m 62 #[.val (.int p1), .val (.long q2), .second, .val (.long q3), .second, .val (.int p4), .val (.int p5), .val (.int (3 : Int32)), .val (.int (8 : Int32)), .val (.int (2 : Int32)), .val (.int ps), .val (.ref t1), .unset, .unset, .unset, .unset, .unset, .unset, .unset, .unset, .unset, .unset] [(.ref b1)])) t → Steps p.tables e below (s₁.setTop (mkF m 0 #[.val (.int p1), .val (.long q2), .second, .val (.long q3), .second, .val (.int p4), .val (.int p5), .unset, .unset, .unset, .unset, .unset, .unset, .unset, .unset, .unset, .unset, .unset, .unset, .unset, .unset, .unset] [])) t := fun t k => R452 t (st453.trans k)
    have R457 : ∀ t, Steps p.tables e below (T453.setTop (mkF m 68 #[.val (.int p1), .val (.long q2), .second, .val (.long q3), .second, .val (.int p4), .val (.int p5), .val (.int (3 : Int32)), .val (.int (8 : Int32)), .val (.int (2 : Int32)), .val (.int ps), .val (.ref t1), .val (.ref b1), .unset, .unset, .unset, .unset, .unset, .unset, .unset, .unset, .unset] [(.int ps), (.ref b1)])) t → Steps p.tables e below (s₁.setTop (mkF m 0 #[.val (.int p1), .val (.long q2), .second, .val (.long q3), .second, .val (.int p4), .val (.int p5), .unset, .unset, .unset, .unset, .unset, .unset, .unset, .unset, .unset, .unset, .unset, .unset, .unset, .unset, .unset] [])) t := by
      intro t k
      refine R456 t ?_
      refine XS.astore X453.here hx rfl (hb hby at_62) rfl rfl (l' := #[.val (.int p1), .val (.long q2), .second, .val (.long q3), .second, .val (.int p4), .val (.int p5), .val (.int (3 : Int32)), .val (.int (8 : Int32)), .val (.int (2 : Int32)), .val (.int ps), .val (.ref t1), .val (.ref b1), .unset, .unset, .unset, .unset, .unset, .unset, .unset, .unset, .unset]) rfl ?_
      refine XS.aload X453.here hx rfl (hb hby at_64) rfl rfl ?_
      refine XS.iload X453.here hx rfl (hb hby at_66) rfl ?_
      exact k
    obtain ⟨_, _, q459a, q459b, q459c⟩ := isOf hZ rfl E_455
    obtain ⟨_, _, ⟨T458, L458, k458, n458⟩, -, X458, ⟨Lc458, hQ458, l458, y458, z458⟩, st458⟩ := X453.virtualBack hx (y := (⟨"com/example/rigorous_bytecode/rigorousbytecode/dex/ArrayDataPayload", "element", "(I)J"⟩ : MethodName)) (z := (⟨"com/example/rigorous_bytecode/rigorousbytecode/dex/ArrayDataPayload", "element", "(I)J"⟩ : MethodName)) hown (mvT hZ (hw _ (List.mem_of_getElem? (i := 26) rfl))) (mvT hZ (hw _ (List.mem_of_getElem? (i := 27) rfl))) (notFace_of_selects (args := #[]) (mvT hZ (hw _ (List.mem_of_getElem? (i := 29) rfl)))) (mvT hZ (hw _ (List.mem_of_getElem? (i := 29) rfl))) (mvT hZ (hw _ (List.mem_of_getElem? (i := 28) rfl))) (by decide) (backOf (W := 0) (rme8 l Z a0 hw [] b1 ps t1 c438 (own_vs q2 q3) (fun j => own_dat q2 q3 (ps.toNatClampNeg * 8 + j)) T453.heap n0 Z453 Fa453 Fb453 A_454 (own_hg3 q2 q3 ps hps)) hZ (hw _ (List.mem_of_getElem? (i := 30) rfl)) (hw _ (List.mem_of_getElem? (i := 8) rfl)) (by decide) (by decide)) q459a q459c (g := (mkF m 68 #[.val (.int p1), .val (.long q2), .second, .val (.long q3), .second, .val (.int p4), .val (.int p5), .val (.int (3 : Int32)), .val (.int (8 : Int32)), .val (.int (2 : Int32)), .val (.int ps), .val (.ref t1), .val (.ref b1), .unset, .unset, .unset, .unset, .unset, .unset, .unset, .unset, .unset] [(.int ps), (.ref b1)])) rfl (by rw [hml]; rfl) (Steps.refl _) (argsL := [(.int ps)]) (rest := []) (lenOf pd_3 rfl) rfl (by show 2 * 0 + _ ≤ _; exact Nat.le_of_eq rfl) (hb hby at_68) (fun _ _ => ⟨rfl, rfl, (by decide : 2 + 0 ≤ _), (by decide : 19 + 0 ≤ _)⟩)
    dsimp only [Pt.U, Pt.locs, Pt.cells, Pt.slots] at X458 l458 y458 z458 st458 hQ458
    subst l458 y458 z458
    obtain ⟨rfl, M458, e458⟩ := hQ458
    have N458 := Fr.app N453 M458
    have R460 : ∀ t, Steps p.tables e below (T458.setTop (mkF m 71 #[.val (.int p1), .val (.long q2), .second, .val (.long q3), .second, .val (.int p4), .val (.int p5), .val (.int (3 : Int32)), .val (.int (8 : Int32)), .val (.int (2 : Int32)), .val (.int ps), .val (.ref t1), .val (.ref b1), .unset, .unset, .unset, .unset, .unset, .unset, .unset, .unset, .unset] [(.long (own_sx (own_acc (fun j => own_dat q2 q3 (ps.toNatClampNeg * 8 + j)) 8 8) (0 : Int32)))])) t → Steps p.tables e below (s₁.setTop (mkF m 0 #[.val (.int p1), .val (.long q2), .second, .val (.long q3), .second, .val (.int p4), .val (.int p5), .unset, .unset, .unset, .unset, .unset, .unset, .unset, .unset, .unset, .unset, .unset, .unset, .unset, .unset, .unset] [])) t := fun t k => R457 t (st458.trans k)
    have R461 : ∀ t, Steps p.tables e below (T458.setTop (mkF m 84 #[.val (.int p1), .val (.long q2), .second, .val (.long q3), .second, .val (.int p4), .val (.int p5), .val (.int (3 : Int32)), .val (.int (8 : Int32)), .val (.int (2 : Int32)), .val (.int ps), .val (.ref t1), .val (.ref b1), .val (.long (own_sx (own_acc (fun j => own_dat q2 q3 (ps.toNatClampNeg * 8 + j)) 8 8) (0 : Int32))), .second, .val (.int (ps * (8 : Int32))), .unset, .unset, .unset, .unset, .unset, .unset] [(.int (8 : Int32)), (.int (ps * (8 : Int32)))])) t → Steps p.tables e below (s₁.setTop (mkF m 0 #[.val (.int p1), .val (.long q2), .second, .val (.long q3), .second, .val (.int p4), .val (.int p5), .unset, .unset, .unset, .unset, .unset, .unset, .unset, .unset, .unset, .unset, .unset, .unset, .unset, .unset, .unset] [])) t := by
      intro t k
      refine R460 t ?_
      refine XS.lstore X458.here hx rfl (hb hby at_71) rfl (l' := #[.val (.int p1), .val (.long q2), .second, .val (.long q3), .second, .val (.int p4), .val (.int p5), .val (.int (3 : Int32)), .val (.int (8 : Int32)), .val (.int (2 : Int32)), .val (.int ps), .val (.ref t1), .val (.ref b1), .val (.long (own_sx (own_acc (fun j => own_dat q2 q3 (ps.toNatClampNeg * 8 + j)) 8 8) (0 : Int32))), .second, .unset, .unset, .unset, .unset, .unset, .unset, .unset]) rfl ?_
      refine XS.iload X458.here hx rfl (hb hby at_73) rfl ?_
      refine XS.iload X458.here hx rfl (hb hby at_75) rfl ?_
      refine XS.imul X458.here hx rfl (hb hby at_77) rfl ?_
      refine XS.istore X458.here hx rfl (hb hby at_78) rfl (l' := #[.val (.int p1), .val (.long q2), .second, .val (.long q3), .second, .val (.int p4), .val (.int p5), .val (.int (3 : Int32)), .val (.int (8 : Int32)), .val (.int (2 : Int32)), .val (.int ps), .val (.ref t1), .val (.ref b1), .val (.long (own_sx (own_acc (fun j => own_dat q2 q3 (ps.toNatClampNeg * 8 + j)) 8 8) (0 : Int32))), .second, .val (.int (ps * (8 : Int32))), .unset, .unset, .unset, .unset, .unset, .unset]) rfl ?_
      refine XS.iload X458.here hx rfl (hb hby at_80) rfl ?_
      refine XS.bipush X458.here hx rfl (hb hby at_82) ?_
      exact k
    have R462 : ∀ t, Steps p.tables e below (T458.setTop (mkF m 92 #[.val (.int p1), .val (.long q2), .second, .val (.long q3), .second, .val (.int p4), .val (.int p5), .val (.int (3 : Int32)), .val (.int (8 : Int32)), .val (.int (2 : Int32)), .val (.int ps), .val (.ref t1), .val (.ref b1), .val (.long (own_sx (own_acc (fun j => own_dat q2 q3 (ps.toNatClampNeg * 8 + j)) 8 8) (0 : Int32))), .second, .val (.int (ps * (8 : Int32))), .unset, .unset, .unset, .unset, .unset, .unset] [(.long (own_src (ps * (8 : Int32)) q2 q3))])) t → Steps p.tables e below (s₁.setTop (mkF m 0 #[.val (.int p1), .val (.long q2), .second, .val (.long q3), .second, .val (.int p4), .val (.int p5), .unset, .unset, .unset, .unset, .unset, .unset, .unset, .unset, .unset, .unset, .unset, .unset, .unset, .unset, .unset] [])) t := by
      intro t k
      by_cases hd : (ps * (8 : Int32)) < (8 : Int32)
      · rw [show (own_src (ps * (8 : Int32)) q2 q3) = q2 from if_pos hd] at k
        have R463 : ∀ t, Steps p.tables e below (T458.setTop (mkF m 87 #[.val (.int p1), .val (.long q2), .second, .val (.long q3), .second, .val (.int p4), .val (.int p5), .val (.int (3 : Int32)), .val (.int (8 : Int32)), .val (.int (2 : Int32)), .val (.int ps), .val (.ref t1), .val (.ref b1), .val (.long (own_sx (own_acc (fun j => own_dat q2 q3 (ps.toNatClampNeg * 8 + j)) 8 8) (0 : Int32))), .second, .val (.int (ps * (8 : Int32))), .unset, .unset, .unset, .unset, .unset, .unset] [])) t → Steps p.tables e below (s₁.setTop (mkF m 0 #[.val (.int p1), .val (.long q2), .second, .val (.long q3), .second, .val (.int p4), .val (.int p5), .unset, .unset, .unset, .unset, .unset, .unset, .unset, .unset, .unset, .unset, .unset, .unset, .unset, .unset, .unset] [])) t := by
          intro t k
          refine R461 t ?_
          refine XS.icmpNo X458.here hx rfl (hb hby at_84) rfl (tlt hd).2.1 ?_
          exact k
        have R464 : ∀ t, Steps p.tables e below (T458.setTop (mkF m 92 #[.val (.int p1), .val (.long q2), .second, .val (.long q3), .second, .val (.int p4), .val (.int p5), .val (.int (3 : Int32)), .val (.int (8 : Int32)), .val (.int (2 : Int32)), .val (.int ps), .val (.ref t1), .val (.ref b1), .val (.long (own_sx (own_acc (fun j => own_dat q2 q3 (ps.toNatClampNeg * 8 + j)) 8 8) (0 : Int32))), .second, .val (.int (ps * (8 : Int32))), .unset, .unset, .unset, .unset, .unset, .unset] [(.long q2)])) t → Steps p.tables e below (s₁.setTop (mkF m 0 #[.val (.int p1), .val (.long q2), .second, .val (.long q3), .second, .val (.int p4), .val (.int p5), .unset, .unset, .unset, .unset, .unset, .unset, .unset, .unset, .unset, .unset, .unset, .unset, .unset, .unset, .unset] [])) t := by
          intro t k
          refine R463 t ?_
          refine XS.lloadN X458.here hx rfl (hb hby at_87) rfl ?_
          refine XS.goto X458.here hx rfl (pc0 := 88) (pc' := 92) rfl (hb hby at_88) (by decide) (by decide) ?_
          exact k
        exact R464 t k
      · rw [show (own_src (ps * (8 : Int32)) q2 q3) = q3 from if_neg hd] at k
        have R465 : ∀ t, Steps p.tables e below (T458.setTop (mkF m 91 #[.val (.int p1), .val (.long q2), .second, .val (.long q3), .second, .val (.int p4), .val (.int p5), .val (.int (3 : Int32)), .val (.int (8 : Int32)), .val (.int (2 : Int32)), .val (.int ps), .val (.ref t1), .val (.ref b1), .val (.long (own_sx (own_acc (fun j => own_dat q2 q3 (ps.toNatClampNeg * 8 + j)) 8 8) (0 : Int32))), .second, .val (.int (ps * (8 : Int32))), .unset, .unset, .unset, .unset, .unset, .unset] [])) t → Steps p.tables e below (s₁.setTop (mkF m 0 #[.val (.int p1), .val (.long q2), .second, .val (.long q3), .second, .val (.int p4), .val (.int p5), .unset, .unset, .unset, .unset, .unset, .unset, .unset, .unset, .unset, .unset, .unset, .unset, .unset, .unset, .unset] [])) t := by
          intro t k
          refine R461 t ?_
          refine XS.icmpYes X458.here hx rfl (pc0 := 84) (pc' := 91) rfl (hb hby at_84) rfl (flt hd).2.1 (by decide) (by decide) ?_
          exact k
        have R466 : ∀ t, Steps p.tables e below (T458.setTop (mkF m 92 #[.val (.int p1), .val (.long q2), .second, .val (.long q3), .second, .val (.int p4), .val (.int p5), .val (.int (3 : Int32)), .val (.int (8 : Int32)), .val (.int (2 : Int32)), .val (.int ps), .val (.ref t1), .val (.ref b1), .val (.long (own_sx (own_acc (fun j => own_dat q2 q3 (ps.toNatClampNeg * 8 + j)) 8 8) (0 : Int32))), .second, .val (.int (ps * (8 : Int32))), .unset, .unset, .unset, .unset, .unset, .unset] [(.long q3)])) t → Steps p.tables e below (s₁.setTop (mkF m 0 #[.val (.int p1), .val (.long q2), .second, .val (.long q3), .second, .val (.int p4), .val (.int p5), .unset, .unset, .unset, .unset, .unset, .unset, .unset, .unset, .unset, .unset, .unset, .unset, .unset, .unset, .unset] [])) t := by
          intro t k
          refine R465 t ?_
          refine XS.lloadN X458.here hx rfl (hb hby at_91) rfl ?_
          exact k
        exact R466 t k
    have R467 : ∀ t, Steps p.tables e below (T458.setTop (mkF m 110 #[.val (.int p1), .val (.long q2), .second, .val (.long q3), .second, .val (.int p4), .val (.int p5), .val (.int (3 : Int32)), .val (.int (8 : Int32)), .val (.int (2 : Int32)), .val (.int ps), .val (.ref t1), .val (.ref b1), .val (.long (own_sx (own_acc (fun j => own_dat q2 q3 (ps.toNatClampNeg * 8 + j)) 8 8) (0 : Int32))), .second, .val (.int (ps * (8 : Int32))), .val (.long (own_src (ps * (8 : Int32)) q2 q3)), .second, .val (.long (own_x (ps * (8 : Int32)) q2 q3)), .second, .unset, .unset] [(.int (1 : Int32)), (.int (8 : Int32))])) t → Steps p.tables e below (s₁.setTop (mkF m 0 #[.val (.int p1), .val (.long q2), .second, .val (.long q3), .second, .val (.int p4), .val (.int p5), .unset, .unset, .unset, .unset, .unset, .unset, .unset, .unset, .unset, .unset, .unset, .unset, .unset, .unset, .unset] [])) t := by
      intro t k
      refine R462 t ?_
      refine XS.lstore X458.here hx rfl (hb hby at_92) rfl (l' := #[.val (.int p1), .val (.long q2), .second, .val (.long q3), .second, .val (.int p4), .val (.int p5), .val (.int (3 : Int32)), .val (.int (8 : Int32)), .val (.int (2 : Int32)), .val (.int ps), .val (.ref t1), .val (.ref b1), .val (.long (own_sx (own_acc (fun j => own_dat q2 q3 (ps.toNatClampNeg * 8 + j)) 8 8) (0 : Int32))), .second, .val (.int (ps * (8 : Int32))), .val (.long (own_src (ps * (8 : Int32)) q2 q3)), .second, .unset, .unset, .unset, .unset]) rfl ?_
      refine XS.lload X458.here hx rfl (hb hby at_94) rfl ?_
      refine XS.iload X458.here hx rfl (hb hby at_96) rfl ?_
      refine XS.bipush X458.here hx rfl (hb hby at_98) ?_
      refine XS.iand X458.here hx rfl (hb hby at_100) rfl ?_
      refine XS.bipush X458.here hx rfl (hb hby at_101) ?_
      refine XS.imul X458.here hx rfl (hb hby at_103) rfl ?_
      refine XS.lushr X458.here hx rfl (hb hby at_104) rfl ?_
      refine XS.lstore X458.here hx rfl (hb hby at_105) rfl (l' := #[.val (.int p1), .val (.long q2), .second, .val (.long q3), .second, .val (.int p4), .val (.int p5), .val (.int (3 : Int32)), .val (.int (8 : Int32)), .val (.int (2 : Int32)), .val (.int ps), .val (.ref t1), .val (.ref b1), .val (.long (own_sx (own_acc (fun j => own_dat q2 q3 (ps.toNatClampNeg * 8 + j)) 8 8) (0 : Int32))), .second, .val (.int (ps * (8 : Int32))), .val (.long (own_src (ps * (8 : Int32)) q2 q3)), .second, .val (.long (own_x (ps * (8 : Int32)) q2 q3)), .second, .unset, .unset]) rfl ?_
      refine XS.iload X458.here hx rfl (hb hby at_107) rfl ?_
      refine XS.iconst X458.here hx rfl (hb hby at_109) ?_
      exact k
    have R468 : ∀ t, Steps p.tables e below (T458.setTop (mkF m 123 #[.val (.int p1), .val (.long q2), .second, .val (.long q3), .second, .val (.int p4), .val (.int p5), .val (.int (3 : Int32)), .val (.int (8 : Int32)), .val (.int (2 : Int32)), .val (.int ps), .val (.ref t1), .val (.ref b1), .val (.long (own_sx (own_acc (fun j => own_dat q2 q3 (ps.toNatClampNeg * 8 + j)) 8 8) (0 : Int32))), .second, .val (.int (ps * (8 : Int32))), .val (.long (own_src (ps * (8 : Int32)) q2 q3)), .second, .val (.long (own_x (ps * (8 : Int32)) q2 q3)), .second, .unset, .unset] [])) t → Steps p.tables e below (s₁.setTop (mkF m 0 #[.val (.int p1), .val (.long q2), .second, .val (.long q3), .second, .val (.int p4), .val (.int p5), .unset, .unset, .unset, .unset, .unset, .unset, .unset, .unset, .unset, .unset, .unset, .unset, .unset, .unset, .unset] [])) t := by
      intro t k
      refine R467 t ?_
      refine XS.icmpYes X458.here hx rfl (pc0 := 110) (pc' := 123) rfl (hb hby at_110) rfl (feq (by decide)).2 (by decide) (by decide) ?_
      exact k
    have R469 : ∀ t, Steps p.tables e below (T458.setTop (mkF m 126 #[.val (.int p1), .val (.long q2), .second, .val (.long q3), .second, .val (.int p4), .val (.int p5), .val (.int (3 : Int32)), .val (.int (8 : Int32)), .val (.int (2 : Int32)), .val (.int ps), .val (.ref t1), .val (.ref b1), .val (.long (own_sx (own_acc (fun j => own_dat q2 q3 (ps.toNatClampNeg * 8 + j)) 8 8) (0 : Int32))), .second, .val (.int (ps * (8 : Int32))), .val (.long (own_src (ps * (8 : Int32)) q2 q3)), .second, .val (.long (own_x (ps * (8 : Int32)) q2 q3)), .second, .unset, .unset] [(.int (2 : Int32)), (.int (8 : Int32))])) t → Steps p.tables e below (s₁.setTop (mkF m 0 #[.val (.int p1), .val (.long q2), .second, .val (.long q3), .second, .val (.int p4), .val (.int p5), .unset, .unset, .unset, .unset, .unset, .unset, .unset, .unset, .unset, .unset, .unset, .unset, .unset, .unset, .unset] [])) t := by
      intro t k
      refine R468 t ?_
      refine XS.iload X458.here hx rfl (hb hby at_123) rfl ?_
      refine XS.iconst X458.here hx rfl (hb hby at_125) ?_
      exact k
    have R470 : ∀ t, Steps p.tables e below (T458.setTop (mkF m 139 #[.val (.int p1), .val (.long q2), .second, .val (.long q3), .second, .val (.int p4), .val (.int p5), .val (.int (3 : Int32)), .val (.int (8 : Int32)), .val (.int (2 : Int32)), .val (.int ps), .val (.ref t1), .val (.ref b1), .val (.long (own_sx (own_acc (fun j => own_dat q2 q3 (ps.toNatClampNeg * 8 + j)) 8 8) (0 : Int32))), .second, .val (.int (ps * (8 : Int32))), .val (.long (own_src (ps * (8 : Int32)) q2 q3)), .second, .val (.long (own_x (ps * (8 : Int32)) q2 q3)), .second, .unset, .unset] [])) t → Steps p.tables e below (s₁.setTop (mkF m 0 #[.val (.int p1), .val (.long q2), .second, .val (.long q3), .second, .val (.int p4), .val (.int p5), .unset, .unset, .unset, .unset, .unset, .unset, .unset, .unset, .unset, .unset, .unset, .unset, .unset, .unset, .unset] [])) t := by
      intro t k
      refine R469 t ?_
      refine XS.icmpYes X458.here hx rfl (pc0 := 126) (pc' := 139) rfl (hb hby at_126) rfl (feq (by decide)).2 (by decide) (by decide) ?_
      exact k
    have R471 : ∀ t, Steps p.tables e below (T458.setTop (mkF m 142 #[.val (.int p1), .val (.long q2), .second, .val (.long q3), .second, .val (.int p4), .val (.int p5), .val (.int (3 : Int32)), .val (.int (8 : Int32)), .val (.int (2 : Int32)), .val (.int ps), .val (.ref t1), .val (.ref b1), .val (.long (own_sx (own_acc (fun j => own_dat q2 q3 (ps.toNatClampNeg * 8 + j)) 8 8) (0 : Int32))), .second, .val (.int (ps * (8 : Int32))), .val (.long (own_src (ps * (8 : Int32)) q2 q3)), .second, .val (.long (own_x (ps * (8 : Int32)) q2 q3)), .second, .unset, .unset] [(.int (4 : Int32)), (.int (8 : Int32))])) t → Steps p.tables e below (s₁.setTop (mkF m 0 #[.val (.int p1), .val (.long q2), .second, .val (.long q3), .second, .val (.int p4), .val (.int p5), .unset, .unset, .unset, .unset, .unset, .unset, .unset, .unset, .unset, .unset, .unset, .unset, .unset, .unset, .unset] [])) t := by
      intro t k
      refine R470 t ?_
      refine XS.iload X458.here hx rfl (hb hby at_139) rfl ?_
      refine XS.iconst X458.here hx rfl (hb hby at_141) ?_
      exact k
    have R472 : ∀ t, Steps p.tables e below (T458.setTop (mkF m 154 #[.val (.int p1), .val (.long q2), .second, .val (.long q3), .second, .val (.int p4), .val (.int p5), .val (.int (3 : Int32)), .val (.int (8 : Int32)), .val (.int (2 : Int32)), .val (.int ps), .val (.ref t1), .val (.ref b1), .val (.long (own_sx (own_acc (fun j => own_dat q2 q3 (ps.toNatClampNeg * 8 + j)) 8 8) (0 : Int32))), .second, .val (.int (ps * (8 : Int32))), .val (.long (own_src (ps * (8 : Int32)) q2 q3)), .second, .val (.long (own_x (ps * (8 : Int32)) q2 q3)), .second, .unset, .unset] [])) t → Steps p.tables e below (s₁.setTop (mkF m 0 #[.val (.int p1), .val (.long q2), .second, .val (.long q3), .second, .val (.int p4), .val (.int p5), .unset, .unset, .unset, .unset, .unset, .unset, .unset, .unset, .unset, .unset, .unset, .unset, .unset, .unset, .unset] [])) t := by
      intro t k
      refine R471 t ?_
      refine XS.icmpYes X458.here hx rfl (pc0 := 142) (pc' := 154) rfl (hb hby at_142) rfl (feq (by decide)).2 (by decide) (by decide) ?_
      exact k
    have R473 : ∀ t, Steps p.tables e below (T458.setTop (mkF m 163 #[.val (.int p1), .val (.long q2), .second, .val (.long q3), .second, .val (.int p4), .val (.int p5), .val (.int (3 : Int32)), .val (.int (8 : Int32)), .val (.int (2 : Int32)), .val (.int ps), .val (.ref t1), .val (.ref b1), .val (.long (own_sx (own_acc (fun j => own_dat q2 q3 (ps.toNatClampNeg * 8 + j)) 8 8) (0 : Int32))), .second, .val (.int (ps * (8 : Int32))), .val (.long (own_src (ps * (8 : Int32)) q2 q3)), .second, .val (.long (own_x (ps * (8 : Int32)) q2 q3)), .second, .val (.long (own_x (ps * (8 : Int32)) q2 q3)), .second] [(.int (lcmpW (own_sx (own_acc (fun j => own_dat q2 q3 (ps.toNatClampNeg * 8 + j)) 8 8) (0 : Int32)) (own_x (ps * (8 : Int32)) q2 q3)))])) t → Steps p.tables e below (s₁.setTop (mkF m 0 #[.val (.int p1), .val (.long q2), .second, .val (.long q3), .second, .val (.int p4), .val (.int p5), .unset, .unset, .unset, .unset, .unset, .unset, .unset, .unset, .unset, .unset, .unset, .unset, .unset, .unset, .unset] [])) t := by
      intro t k
      refine R472 t ?_
      refine XS.lload X458.here hx rfl (hb hby at_154) rfl ?_
      refine XS.lstore X458.here hx rfl (hb hby at_156) rfl (l' := #[.val (.int p1), .val (.long q2), .second, .val (.long q3), .second, .val (.int p4), .val (.int p5), .val (.int (3 : Int32)), .val (.int (8 : Int32)), .val (.int (2 : Int32)), .val (.int ps), .val (.ref t1), .val (.ref b1), .val (.long (own_sx (own_acc (fun j => own_dat q2 q3 (ps.toNatClampNeg * 8 + j)) 8 8) (0 : Int32))), .second, .val (.int (ps * (8 : Int32))), .val (.long (own_src (ps * (8 : Int32)) q2 q3)), .second, .val (.long (own_x (ps * (8 : Int32)) q2 q3)), .second, .val (.long (own_x (ps * (8 : Int32)) q2 q3)), .second]) rfl ?_
      refine XS.lload X458.here hx rfl (hb hby at_158) rfl ?_
      refine XS.lload X458.here hx rfl (hb hby at_160) rfl ?_
      refine XS.lcmp X458.here hx rfl (hb hby at_162) rfl ?_
      exact k
    have R474 : ∀ t, Steps p.tables e below (T458.setTop (mkF m 166 #[.val (.int p1), .val (.long q2), .second, .val (.long q3), .second, .val (.int p4), .val (.int p5), .val (.int (3 : Int32)), .val (.int (8 : Int32)), .val (.int (2 : Int32)), .val (.int ps), .val (.ref t1), .val (.ref b1), .val (.long (own_sx (own_acc (fun j => own_dat q2 q3 (ps.toNatClampNeg * 8 + j)) 8 8) (0 : Int32))), .second, .val (.int (ps * (8 : Int32))), .val (.long (own_src (ps * (8 : Int32)) q2 q3)), .second, .val (.long (own_x (ps * (8 : Int32)) q2 q3)), .second, .val (.long (own_x (ps * (8 : Int32)) q2 q3)), .second] [])) t → Steps p.tables e below (s₁.setTop (mkF m 0 #[.val (.int p1), .val (.long q2), .second, .val (.long q3), .second, .val (.int p4), .val (.int p5), .unset, .unset, .unset, .unset, .unset, .unset, .unset, .unset, .unset, .unset, .unset, .unset, .unset, .unset, .unset] [])) t := by
      intro t k
      refine R473 t ?_
      refine XS.ifNo X458.here hx rfl (hb hby at_163) rfl ((if0 _ _).trans (teq ((lw_eq _ _).mpr (own_law3 q2 q3 ps hps))).2) ?_
      exact k
    have R475 : ∀ t, Steps p.tables e below (T458.setTop (mkF m 171 #[.val (.int p1), .val (.long q2), .second, .val (.long q3), .second, .val (.int p4), .val (.int p5), .val (.int (3 : Int32)), .val (.int (8 : Int32)), .val (.int (2 : Int32)), .val (.int ps), .val (.ref t1), .val (.ref b1), .val (.long (own_sx (own_acc (fun j => own_dat q2 q3 (ps.toNatClampNeg * 8 + j)) 8 8) (0 : Int32))), .second, .val (.int (ps * (8 : Int32))), .val (.long (own_src (ps * (8 : Int32)) q2 q3)), .second, .val (.long (own_x (ps * (8 : Int32)) q2 q3)), .second, .val (.long (own_x (ps * (8 : Int32)) q2 q3)), .second] [(.int (1 : Int32))])) t → Steps p.tables e below (s₁.setTop (mkF m 0 #[.val (.int p1), .val (.long q2), .second, .val (.long q3), .second, .val (.int p4), .val (.int p5), .unset, .unset, .unset, .unset, .unset, .unset, .unset, .unset, .unset, .unset, .unset, .unset, .unset, .unset, .unset] [])) t := by
      intro t k
      refine R474 t ?_
      refine XS.iconst X458.here hx rfl (hb hby at_166) ?_
      refine XS.goto X458.here hx rfl (pc0 := 167) (pc' := 171) rfl (hb hby at_167) (by decide) (by decide) ?_
      exact k
    obtain ⟨fs, hr, hrun, hended, hW, hsame⟩ := X458.leave (v := some (.int (1 : Int32))) (fun h => by rw [Bd.returns] at h; cases h)
    refine ⟨_, _, pre0 _ (R475 _ (retN X458 hx (t := .boolean) Bd.returns (by simp) (hb hby at_171) hr)), hrun, hended, _, _, rfl, ?_, ⟨_, rfl⟩, hW, hsame.mono (by decide) (by decide)⟩
    show Q_rm0 Z p1 q2 q3 p4 p5  h0 n0 _ T458.heap _
    rw [e458]
    exact ⟨rfl, N458⟩
set_option maxRecDepth 65536 in
set_option maxHeartbeats 40000000 in
theorem comes_1 {Post : Tables → Env → Array Value → State → Outcome → State → Prop} (hpost : ∀ tb e args s v u, (limb_1_1.after args s (.returned v) u = true ∧ limb_1_2.after args s (.returned v) u = true ∧ True) → FrameEnd s (.returned v) u (Jvm.fieldLocs frame_1_writes args s ++ Jvm.arrayLocs frame_1_arrays args s ++ Jvm.staticLocs frame_1_statics s) 16 128 → Post tb e args s (.returned v) u) :
    ArmFor flags0 classFile x code maxLocals ret World_1 tables_1 room_1 Calls_1 rest_1 Pre_1 Post := by
  intro l hfl _ _ p e ha hc hk s m args below hf hA hF happ hP
  obtain ⟨hcalls, hrest, hpre⟩ := hP
  obtain ⟨-, -, -, hnamed, -, -, -, hat⟩ := (Spec.applies_iff hf).mp happ
  obtain ⟨hg, hn⟩ := and_e (Cond.before_iff.mp (show (Jvm.Cond.and given_1 narrow_1).before args s = true from hpre))
  obtain ⟨g0, r0⟩ := and_e hg
  obtain ⟨g1, r1⟩ := and_e r0
  obtain ⟨g2, r2⟩ := and_e r1
  obtain ⟨g3, r3⟩ := and_e r2
  obtain ⟨g4, r4⟩ := and_e r3
  obtain ⟨w0, w1, w2, w3, w4, rfl⟩ : ∃ w0 w1 w2 w3 w4 : Value, args = #[w0, w1, w2, w3, w4] := by
    have hs : args.size = 5 := by simpa [Cond.value, given_1] using g0
    obtain ⟨L⟩ := args
    match L, hs with
    | [w0, w1, w2, w3, w4], _ => exact ⟨w0, w1, w2, w3, w4, rfl⟩
  have hw := fun d (hd : d ∈ tables_1) => atoms_spec (ws := Jvm.Cond.code x code maxLocals ret :: tables_1) hat d (List.mem_cons_of_mem _ hd)
  have hfit : Fit s := fun {y c} hc i hi => by
    obtain ⟨ha, rfl⟩ := Array.getElem?_eq_some_iff.mp hc
    have q := List.all_eq_true.mp ((Array.all_eq_true_iff_forall_mem.mp hF) _ (Array.getElem_mem ha)) i (List.mem_range.mpr hi)
    simpa [Array.getElem?_eq_getElem hi] using q
  obtain ⟨i0, ei0⟩ := is_v g1
  obtain rfl : w0 = (.int i0) := Option.some.inj ei0
  obtain ⟨i1, ei1⟩ := isL_v g2
  obtain rfl : w1 = (.long i1) := Option.some.inj ei1
  obtain ⟨i2, ei2⟩ := isL_v g3
  obtain rfl : w2 = (.long i2) := Option.some.inj ei2
  obtain ⟨i3, ei3⟩ := is_v g4
  obtain rfl : w3 = (.int i3) := Option.some.inj ei3
  obtain ⟨i4, ei4⟩ := is_v r4
  obtain rfl : w4 = (.int i4) := Option.some.inj ei4
  obtain ⟨n, o, h1, h2, h3, _, L, rfl, ⟨rfl, N⟩, hq⟩ := rm0 l s _ hw tables_1 i0 i1 i2 i3 i4  s.heap s.heap.size (Nat.le_refl _)  p e ha hc hk s m _ below hf ((Spec.applies_iff_loose hf).mp happ).1 ⟨rfl, State.Warmed39.refl s, rfl⟩ trivial
  refine ⟨n, _, h1, h2, h3, hpost _ _ _ _ _ _ ⟨Cond.after_iff.mpr rfl, Cond.after_iff.mpr (eq_i res_at (Term.int_eval (1)) rfl), trivial⟩ ⟨hq.1, hq.2.1, (hq.2.2.sift fun y hy => Or.inr (N y hy)).mono (by decide) (by decide)⟩⟩
theorem main_1_1 : Claimed_1_1 := comes_1 fun _ _ _ _ _ _ h hF => ⟨h.1, hF⟩
theorem main_1_2 : Claimed_1_2 := comes_1 fun _ _ _ _ _ _ h hF => ⟨h.2.1, hF⟩
end Jvm.Pilot.@@N@@
namespace Jvm.Pilot.@@N@@
open Jvm Jvm.ClassFile Sem Op Lib Jvm.Free Jvm.Stand Jvm.Pilot.@@N@@.Jvm.D
/-! MADE BY PROGRAM (witnessworld.py) out of the Statement's table words and the real class files: 11 classes; the members and pool entries that the words name. The judged class is class 1, her method 1. -/
namespace start1
open Jvm.ClassFile
def u (s : String) : CpInfo := .utf8 (stringToUtf16 s)
/-- a pool by its gaps: so many unusable entries, then the entry; so many at the end -/
def gap : Nat → List CpInfo → List CpInfo
  | 0, r => r
  | n + 1, r => .unusable :: gap n r
def poolList (es : List (Nat × CpInfo)) (last : Nat) : List CpInfo := es.foldr (fun e r => gap e.1 (e.2 :: r)) (gap last [])
def pool (es : List (Nat × CpInfo)) (last : Nat) : Array CpInfo := ⟨poolList es last⟩
def fileOf (pool : Array CpInfo) (this : Nat) (attrs : Array Attribute := #[]) (ms : Array MethodInfo := #[]) (fl : Nat := 33) (sup : Nat := 0) (ifs : Array Nat := #[]) (fds : Array FieldInfo := #[]) : ClassFile where
  minorVersion := 0
  majorVersion := 65
  constantPool := pool
  accessFlags := fl
  thisClass := this
  superClass := sup
  interfaces := ifs
  fields := fds
  methods := ms
  attributes := attrs
def plain (name : String) (sup : Option ClassId) : Class where
  name := name
  kind := .ordinary
  loader := none
  accessFlags := 33
  super := sup
  interfaces := #[]
  cf := none
  fields := #[]
  methods := #[]
  instanceTypes := #[]
  staticTypes := #[]
  resolved := #[]
  callSites := []
  init := .initialized
  statics := none
  mirror := none

def pool0 : Array CpInfo := pool [(5, u "<init>"), (0, u "()V"), (1, .class_ 10), (1, u "java/lang/Object")] 113

def k0c0 : Code := { maxStack := 0, maxLocals := 1, code := object_method_1_code, exceptionTable := #[], attributes := #[] }
def k0m0 : Method := { name := "<init>", desc := "()V", sig := { parameters := [], returnType := none }, accessFlags := 1, code := some k0c0 }
/-- java/lang/Object -/
def k0 : Class := { plain "java/lang/Object" none with
  accessFlags := 33
  interfaces := #[]
  cf := some (fileOf pool0 8 #[] #[{ accessFlags := 1, nameIndex := 5, descriptorIndex := 6, attributes := #[] }] 33 0 #[] #[])
  fields := #[]
  methods := #[k0m0]
  instanceTypes := #[]
  staticTypes := #[]
  resolved := Array.replicate 124 none
  statics := none }

def pool1 : Array CpInfo := pool [(2, .class_ 4), (1, u "java/lang/Object"), (0, u "<init>"), (0, u "()V"), (0, .integer 2147483647), (0, .methodref 9 10), (0, .class_ 11), (0, .nameAndType 12 13), (0, u "com/example/rigorous_bytecode/rigorousbytecode/dex/ArrayDataPayloadElementPinLaw"), (0, u "put"), (0, u "([BIJ)V"), (0, .class_ 15), (0, u "com/example/rigorous_bytecode/rigorousbytecode/dex/ArrayDataPayload"), (0, .methodref 14 17), (0, .nameAndType 5 18), (0, u "(II[B)V"), (0, .methodref 14 20), (0, .nameAndType 21 22), (0, u "element"), (0, u "(I)J"), (2, u "law"), (0, u "(IJJII)Z")] 5

def k1m0 : Method := { name := "<init>", desc := "()V", sig := { parameters := [], returnType := none }, accessFlags := 1, code := none }
def k1c1 : Code := { maxStack := 5, maxLocals := 22, code := code, exceptionTable := #[], attributes := #[] }
def k1m1 : Method := { name := "law", desc := "(IJJII)Z", sig := { parameters := [.int, .long, .long, .int, .int], returnType := some .boolean }, accessFlags := 9, code := some k1c1 }
def k1c2 : Code := { maxStack := 5, maxLocals := 4, code := method_3_code, exceptionTable := #[], attributes := #[] }
def k1m2 : Method := { name := "put", desc := "([BIJ)V", sig := { parameters := [(.array .byte), .int, .long], returnType := none }, accessFlags := 10, code := some k1c2 }
/-- com/example/rigorous_bytecode/rigorousbytecode/dex/ArrayDataPayloadElementPinLaw -/
def k1 : Class := { plain "com/example/rigorous_bytecode/rigorousbytecode/dex/ArrayDataPayloadElementPinLaw" (some 0) with
  accessFlags := 49
  interfaces := #[]
  cf := some (fileOf pool1 9 #[] #[{ accessFlags := 1, nameIndex := 5, descriptorIndex := 6, attributes := #[] }, { accessFlags := 9, nameIndex := 25, descriptorIndex := 26, attributes := #[] }, { accessFlags := 10, nameIndex := 12, descriptorIndex := 13, attributes := #[] }] 49 2 #[] #[])
  fields := #[]
  methods := #[k1m0, k1m1, k1m2]
  instanceTypes := #[]
  staticTypes := #[]
  resolved := Array.replicate 32 none
  statics := none }

def pool2 : Array CpInfo := pool [(1, .methodref 2 3), (0, .class_ 4), (0, .nameAndType 5 6), (0, u "java/lang/Object"), (0, u "<init>"), (0, u "()V"), (0, .class_ 8), (0, u "java/lang/Record")] 13

def k2c0 : Code := { maxStack := 1, maxLocals := 1, code := jdk_30_method_1_code, exceptionTable := #[], attributes := #[] }
def k2m0 : Method := { name := "<init>", desc := "()V", sig := { parameters := [], returnType := none }, accessFlags := 4, code := some k2c0 }
/-- java/lang/Record -/
def k2 : Class := { plain "java/lang/Record" (some 0) with
  accessFlags := 1057
  interfaces := #[]
  cf := some (fileOf pool2 7 #[] #[{ accessFlags := 4, nameIndex := 5, descriptorIndex := 6, attributes := #[] }] 1057 2 #[] #[])
  fields := #[]
  methods := #[k2m0]
  instanceTypes := #[]
  staticTypes := #[]
  resolved := Array.replicate 22 none
  statics := none }

def pool3 : Array CpInfo := pool [(1, .class_ 2), (0, u "com/example/rigorous_bytecode/rigorousbytecode/dex/Instruction"), (0, .class_ 4), (0, u "java/lang/Object")] 20

/-- com/example/rigorous_bytecode/rigorousbytecode/dex/Instruction -/
def k3 : Class := { plain "com/example/rigorous_bytecode/rigorousbytecode/dex/Instruction" (some 0) with
  accessFlags := 1537
  interfaces := #[]
  cf := some (fileOf pool3 1 #[] #[] 1537 3 #[] #[])
  fields := #[]
  methods := #[]
  instanceTypes := #[]
  staticTypes := #[]
  resolved := Array.replicate 25 none
  statics := none }

def pool4 : Array CpInfo := pool [(1, .methodref 2 3), (0, .class_ 4), (0, .nameAndType 5 6), (0, u "java/lang/Record"), (0, u "<init>"), (0, u "()V"), (0, .fieldref 8 9), (0, .class_ 10), (0, .nameAndType 11 12), (0, u "com/example/rigorous_bytecode/rigorousbytecode/dex/ArrayDataPayload"), (0, u "offset"), (0, u "I"), (0, .fieldref 8 14), (0, .nameAndType 15 12), (0, u "elementWidth"), (0, .fieldref 8 17), (0, .nameAndType 18 19), (0, u "data"), (0, u "[B"), (18, .class_ 39), (0, u "com/example/rigorous_bytecode/rigorousbytecode/dex/Instruction"), (0, u "(II[B)V"), (8, u "element"), (0, u "(I)J")] 26

def k4c0 : Code := { maxStack := 2, maxLocals := 4, code := prog_44_method_1_code, exceptionTable := #[], attributes := #[] }
def k4m0 : Method := { name := "<init>", desc := "(II[B)V", sig := { parameters := [.int, .int, (.array .byte)], returnType := none }, accessFlags := 1, code := some k4c0 }
def k4c1 : Code := { maxStack := 5, maxLocals := 6, code := prog_44_method_5_code, exceptionTable := #[], attributes := #[] }
def k4m1 : Method := { name := "element", desc := "(I)J", sig := { parameters := [.int], returnType := some .long }, accessFlags := 1, code := some k4c1 }
/-- com/example/rigorous_bytecode/rigorousbytecode/dex/ArrayDataPayload -/
def k4 : Class := { plain "com/example/rigorous_bytecode/rigorousbytecode/dex/ArrayDataPayload" (some 2) with
  accessFlags := 49
  interfaces := #[3]
  cf := some (fileOf pool4 8 #[] #[{ accessFlags := 1, nameIndex := 5, descriptorIndex := 40, attributes := #[] }, { accessFlags := 1, nameIndex := 49, descriptorIndex := 50, attributes := #[] }] 49 2 #[38] #[{ accessFlags := 18, nameIndex := 11, descriptorIndex := 12, attributes := #[] }, { accessFlags := 18, nameIndex := 15, descriptorIndex := 12, attributes := #[] }, { accessFlags := 18, nameIndex := 18, descriptorIndex := 19, attributes := #[] }])
  fields := #[{ name := "offset", type := .int, accessFlags := 18, slot := 0, constantValue := 0 }, { name := "elementWidth", type := .int, accessFlags := 18, slot := 1, constantValue := 0 }, { name := "data", type := (.array .byte), accessFlags := 18, slot := 2, constantValue := 0 }]
  methods := #[k4m0, k4m1]
  instanceTypes := #[.int, .int, (.array .byte)]
  staticTypes := #[]
  resolved := Array.replicate 77 none
  statics := none }

def pool5 : Array CpInfo := pool [(1, u "java/lang/Cloneable"), (0, .class_ 1), (0, u "java/lang/Object"), (0, .class_ 3)] 3

/-- java/lang/Cloneable -/
def k5 : Class := { plain "java/lang/Cloneable" (some 0) with
  accessFlags := 1537
  interfaces := #[]
  cf := some (fileOf pool5 2 #[] #[] 1537 4 #[] #[])
  fields := #[]
  methods := #[]
  instanceTypes := #[]
  staticTypes := #[]
  resolved := Array.replicate 8 none
  statics := none }

def pool6 : Array CpInfo := pool [(1, u "java/io/Serializable"), (0, .class_ 1), (0, u "java/lang/Object"), (0, .class_ 3)] 3

/-- java/io/Serializable -/
def k6 : Class := { plain "java/io/Serializable" (some 0) with
  accessFlags := 1537
  interfaces := #[]
  cf := some (fileOf pool6 2 #[] #[] 1537 4 #[] #[])
  fields := #[]
  methods := #[]
  instanceTypes := #[]
  staticTypes := #[]
  resolved := Array.replicate 8 none
  statics := none }

/-- the primitive byte -/
def k7 : Class := { plain "byte" none with kind := .primitive 'B', accessFlags := 0x411 }
/-- [B -/
def k8 : Class := { plain "[B" (some 0) with kind := .array 7 .byte, interfaces := #[5, 6], accessFlags := 1041 }

/-- the primitive int -/
def k9 : Class := { plain "int" none with kind := .primitive 'I', accessFlags := 0x411 }
/-- [I -/
def k10 : Class := { plain "[I" (some 0) with kind := .array 9 .int, interfaces := #[5, 6], accessFlags := 1041 }

def heap : Heap := #[]
def classes : Array Class := #[k0, k1, k2, k3, k4, k5, k6, k7, k8, k9, k10]
def interned : List (Array UInt16 × Addr) := []
def slotsUsed : Nat := 0
def theMethod : MethodId := ⟨1, 1⟩
def args0 : Array Value := #[.int 2, .long 5, .long 7, .int 9, .int 3]
def aboutOver (below : List Frame) : State where
  vm := { classes := classes, interned := interned.toArray }
  heap := heap
  slotsUsed := slotsUsed
  threads := #[{ frames := .invoking theMethod args0 :: below }]
def below0 : List Frame := [.native { method := ⟨0, 0⟩, args := #[] }]
def about1 : State := aboutOver below0
def p0 : Program := .bare "" "" ""
def e0 : Env := launch0.env 0 0 0
theorem w_frames : about1.frames = Frame.invoking theMethod args0 :: below0 := rfl
set_option maxRecDepth 65536 in
theorem w_args : argsFit about1.vm theMethod args0 = true := by decide +kernel
set_option maxRecDepth 65536 in
theorem w_heap : heapFits about1 = true := by decide +kernel
set_option maxRecDepth 65536 in
theorem w_runnable : about1.curStatus? = some .runnable := by decide +kernel
set_option maxRecDepth 65536 in
theorem w_alone : about1.alone = true := by decide +kernel
set_option maxRecDepth 65536 in
theorem w_named : about1.methodNamed? x = some theMethod := by decide +kernel
set_option maxRecDepth 65536 in
theorem w_hears : about1.hears theMethod below0 = true := by decide +kernel
set_option maxRecDepth 65536 in
theorem w_ripe : about1.ripe theMethod args0 below0 = true := by decide +kernel
theorem w_running : about1.status = .running := rfl
set_option maxRecDepth 65536 in
theorem w_room : about1.hasRoom e0.platform room_1 = true :=
  launch0.hasRoom_least _ room_1 (by decide +kernel) (by decide +kernel) (by decide +kernel) (by decide +kernel) (by decide +kernel) (by decide +kernel)
theorem allAtoms_all (ts : List Jvm.Cond) (a : Array Jvm.Value) (st : Jvm.State) : (allAtoms ts).before a st = ts.all (fun c => c.before a st) := by
  induction ts with
  | nil => rfl
  | cons c t ih =>
    show (Jvm.Cond.and c (allAtoms t)).before a st = _
    rw [Jvm.Cond.before_and, ih, List.all_cons]
def words1 : List Jvm.Cond := Jvm.Cond.code x code maxLocals ret :: tables_1
/-- a 'code' word, met by the world's own term for the bytes: nothing is compared byte by byte -/
theorem code_word {y : MethodName} {bytes : ByteArray} {mx : Nat} {rt : Option FieldType} {a : Array Value} {s : State} {m : MethodId} {meth : Method} {c : Code} (h1 : s.methodNamed? y = some m) (h2 : s.vm.method? m = some meth) (h3 : meth.code = some c) (h4 : c.code = bytes)
    (h5 : (c.maxLocals == mx && c.exceptionTable.isEmpty && decide (c.maxStack ≤ mostOperands) && decide (meth.sig.returnType = rt) && !meth.locks && decide (parseMethodDescriptor y.desc = some meth.sig)) = true) : (Jvm.Cond.code y bytes mx rt).before a s = true := by
  simp only [Bool.and_eq_true, beq_iff_eq, Bool.not_eq_true', decide_eq_true_eq] at h5
  obtain ⟨⟨⟨⟨⟨g1, g2⟩, g3⟩, g4⟩, g5⟩, g6⟩ := h5
  simp [Cond.before, Cond.holds, Cond.value, h1, h2, h3, h4, g1, g2, g3, g4, g5, g6]
def isCode : Jvm.Cond → Bool
  | .code _ _ _ _ => true
  | _ => false
theorem all_split {L : List Jvm.Cond} {P : Jvm.Cond → Bool} (h1 : L.all (fun c => isCode c || P c) = true) (h2 : ∀ c ∈ L.filter isCode, P c = true) : L.all P = true := by
  refine List.all_eq_true.mpr fun c hc => ?_
  have h := List.all_eq_true.mp h1 c hc
  rcases Bool.eq_false_or_eq_true (isCode c) with hi | hi
  · exact h2 c (List.mem_filter.mpr ⟨hc, hi⟩)
  · simpa [hi] using h
set_option maxRecDepth 65536 in
theorem w_c0 : (Jvm.Cond.code x code maxLocals ret).before args0 about1 = true := code_word (m := ⟨1, 1⟩) (meth := k1m1) (c := k1c1) (by decide +kernel) rfl rfl rfl (by decide +kernel)
set_option maxRecDepth 65536 in
theorem w_c1 : (Jvm.Cond.code ({ cls := "com/example/rigorous_bytecode/rigorousbytecode/dex/ArrayDataPayloadElementPinLaw", name := "put", desc := "([BIJ)V" } : Jvm.MethodName) method_3_code (4 : Nat) (Option.none : Option Jvm.ClassFile.FieldType)).before args0 about1 = true := code_word (m := ⟨1, 2⟩) (meth := k1m2) (c := k1c2) (by decide +kernel) rfl rfl rfl (by decide +kernel)
set_option maxRecDepth 65536 in
theorem w_c2 : (Jvm.Cond.code ({ cls := "com/example/rigorous_bytecode/rigorousbytecode/dex/ArrayDataPayload", name := "<init>", desc := "(II[B)V" } : Jvm.MethodName) prog_44_method_1_code (4 : Nat) (Option.none : Option Jvm.ClassFile.FieldType)).before args0 about1 = true := code_word (m := ⟨4, 0⟩) (meth := k4m0) (c := k4c0) (by decide +kernel) rfl rfl rfl (by decide +kernel)
set_option maxRecDepth 65536 in
theorem w_c3 : (Jvm.Cond.code ({ cls := "java/lang/Record", name := "<init>", desc := "()V" } : Jvm.MethodName) jdk_30_method_1_code (1 : Nat) (Option.none : Option Jvm.ClassFile.FieldType)).before args0 about1 = true := code_word (m := ⟨2, 0⟩) (meth := k2m0) (c := k2c0) (by decide +kernel) rfl rfl rfl (by decide +kernel)
set_option maxRecDepth 65536 in
theorem w_c4 : (Jvm.Cond.code ({ cls := "java/lang/Object", name := "<init>", desc := "()V" } : Jvm.MethodName) object_method_1_code (1 : Nat) (Option.none : Option Jvm.ClassFile.FieldType)).before args0 about1 = true := code_word (m := ⟨0, 0⟩) (meth := k0m0) (c := k0c0) (by decide +kernel) rfl rfl rfl (by decide +kernel)
set_option maxRecDepth 65536 in
theorem w_c5 : (Jvm.Cond.code ({ cls := "com/example/rigorous_bytecode/rigorousbytecode/dex/ArrayDataPayload", name := "element", desc := "(I)J" } : Jvm.MethodName) prog_44_method_5_code (6 : Nat) (Option.some Jvm.ClassFile.FieldType.long)).before args0 about1 = true := code_word (m := ⟨4, 1⟩) (meth := k4m1) (c := k4c1) (by decide +kernel) rfl rfl rfl (by decide +kernel)
def codes1 : List Jvm.Cond := [Jvm.Cond.code x code maxLocals ret, Jvm.Cond.code ({ cls := "com/example/rigorous_bytecode/rigorousbytecode/dex/ArrayDataPayloadElementPinLaw", name := "put", desc := "([BIJ)V" } : Jvm.MethodName) method_3_code (4 : Nat) (Option.none : Option Jvm.ClassFile.FieldType), Jvm.Cond.code ({ cls := "com/example/rigorous_bytecode/rigorousbytecode/dex/ArrayDataPayload", name := "<init>", desc := "(II[B)V" } : Jvm.MethodName) prog_44_method_1_code (4 : Nat) (Option.none : Option Jvm.ClassFile.FieldType), Jvm.Cond.code ({ cls := "java/lang/Record", name := "<init>", desc := "()V" } : Jvm.MethodName) jdk_30_method_1_code (1 : Nat) (Option.none : Option Jvm.ClassFile.FieldType), Jvm.Cond.code ({ cls := "java/lang/Object", name := "<init>", desc := "()V" } : Jvm.MethodName) object_method_1_code (1 : Nat) (Option.none : Option Jvm.ClassFile.FieldType), Jvm.Cond.code ({ cls := "com/example/rigorous_bytecode/rigorousbytecode/dex/ArrayDataPayload", name := "element", desc := "(I)J" } : Jvm.MethodName) prog_44_method_5_code (6 : Nat) (Option.some Jvm.ClassFile.FieldType.long)]
set_option maxRecDepth 65536 in
theorem codes_eq : words1.filter isCode = codes1 := rfl
theorem w_codes : ∀ c ∈ words1.filter isCode, c.before args0 about1 = true := by
  rw [codes_eq]
  intro c hc
  simp only [codes1, List.mem_cons, List.not_mem_nil, or_false] at hc
  rcases hc with rfl | rfl | rfl | rfl | rfl | rfl
  · exact w_c0
  · exact w_c1
  · exact w_c2
  · exact w_c3
  · exact w_c4
  · exact w_c5
set_option maxRecDepth 65536 in
theorem w_t1 : (words1.take 24).all (fun c => isCode c || c.before args0 about1) = true := by decide +kernel
set_option maxRecDepth 65536 in
theorem w_t2 : (words1.drop 24).all (fun c => isCode c || c.before args0 about1) = true := by decide +kernel
theorem w_tables : (allAtoms (Jvm.Cond.code x code maxLocals ret :: tables_1)).before args0 about1 = true := by
  rw [allAtoms_all]
  show words1.all (fun c => c.before args0 about1) = true
  refine all_split ?_ w_codes
  rw [← List.take_append_drop 24 words1, List.all_append, w_t1, w_t2]
  rfl
set_option maxRecDepth 65536 in
theorem w_case : (Jvm.Cond.and given_1 narrow_1).before args0 about1 = true := by decide +kernel
theorem w_applies : (headSpec (Jvm.Cond.code x code maxLocals ret :: tables_1) room_1).applies x e0.platform about1 = true :=
  (Spec.applies_iff w_frames).mpr ⟨w_running, w_runnable, w_alone, w_named, w_hears, w_ripe, w_room, w_tables⟩
theorem atStart : AtStart classFile x code maxLocals ret World_1 tables_1 room_1 Calls_1 rest_1 Pre_1 launch0 p0 e0 about1 theMethod args0 below0 :=
  ⟨lists_1, trivial, launch0.admits_env _ _ _, launch0.least_env, fairChoices_fair.cas, fairChoices_fair.clock, w_frames, w_args, w_heap, w_applies, trivial, trivial, w_case⟩
end start1
theorem witness_1 : WitnessClaimed_1 := ⟨start1.p0, start1.e0, start1.about1, start1.theMethod, start1.args0, start1.below0, start1.atStart⟩
end Jvm.Pilot.@@N@@
