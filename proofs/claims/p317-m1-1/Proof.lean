import JvmDerived
import JvmDerived.Pilot.@@N@@Statement
import JvmDerived.Pilot.@@N@@Code
set_option linter.unusedVariables false
set_option linter.unusedSimpArgs false
namespace Jvm.RoadKit
open Sem ClassFile Op Lib Jvm.Stand Jvm.Free Jvm.LawKit
section New
variable {p : Program} {l : Launch} {e : Env} {R : Room} {s : State} {m : MethodId} {args : Array Value} {below : List Frame} {meth : Method} {c : Code} {T : State} {locs : List Loc} {cells slots : Nat}
theorem retI (X : Stand p l e R s m args below meth c T locs cells slots) (hx : p.tables.exec = Jvm.exec) {pc : Nat} {Ls : Array Slot} {z : Int32} {rest : List Value} (hret : meth.sig.returnType = some .int) (hd : decode c.code pc = .ok (.ireturn, 1)) {fs : List Frame}
    (hl : ∀ (f : JFrame) (acts : List Action), f.method = m → f.locked = none → f.entered = [] → (doReturn e (T.setTop f) acts (some (.int z))).1 = T.setFrames fs) : Steps p.tables e below (T.setTop (mkF m pc Ls (.int z :: rest))) (T.setFrames fs) := by
  have hm' : T.vm.method? m = some meth := X.method'
  have hn : narrow .int (.int z) = .int z := rfl
  show Steps p.tables e below (T.setTop { method := m, pc := pc, locals := Ls, stack := _ :: rest, locked := none }) _
  jvm_step X.here [X.here.top, hx, hd, hm', hret, hn]
  first | (intro acts; rw [hl _ acts rfl rfl rfl]) | rw [hl _ _ rfl rfl rfl]
  exact Steps.refl _
end New
end Jvm.RoadKit
namespace Jvm.Pilot.@@N@@
open Jvm Jvm.ClassFile Sem Op Lib Jvm.Free Jvm.Stand Jvm.LawKit Jvm.RoadKit Bundle Jvm.Pilot.@@N@@.Jvm.D
theorem d2_0 : decode jdk_30_method_1_code 0 = .ok (.aload_n 0, 1) := by decide +kernel
theorem d2_1 : decode jdk_30_method_1_code 1 = .ok (.invokespecial 1, 3) := by decide +kernel
theorem d2_4 : decode jdk_30_method_1_code 4 = .ok (.return_, 1) := by decide +kernel
theorem pn_0 : plainName "java/lang/Record" = true := by first | (simp [plainName, overriddenIn]; done) | decide +kernel
theorem ef_rm2 (m : MethodId) (x0 : Addr) : entryFrame m #[(.ref x0)] 1 = mkF m 0 #[.val (.ref x0)] [] := by first | (simp [entryFrame, mkF, argsToLocals, Value.category]; done) | rfl
def Q_rm2 (Z : State) (a1 : Addr)  (h0 : Heap) (n0 : Nat) (v : Option Value) (h : Heap) (L : List Loc) : Prop := v = none ∧ Fr n0 L ∧ h = h0
set_option maxRecDepth 65536 in
set_option maxHeartbeats 40000000 in
theorem rm2 (l : Launch) (Z : State) (a0 : Array Value) (hw : ∀ d ∈ tables_1, d.before a0 Z = true) (ws : List Jvm.Cond) (a1 : Addr)  (h0 : Heap) (n0 : Nat) (Z0 : n0 ≤ h0.size)  :
    MetFree l (⟨"java/lang/Record", "<init>", "()V"⟩ : MethodName) (head1 (Jvm.Cond.code (⟨"java/lang/Record", "<init>", "()V"⟩ : MethodName) jdk_30_method_1_code 1 none :: ws) ({ frames := 1, cells := 0, slots := 0, locals := 12 } : Room)) (fun a U => a = #[(.ref a1)] ∧ Z.Warmed39 U.vm ∧ U.heap = h0) (fun _ _ _ _ _ => True) (fun _ U o U' => ∃ v L, o = .returned v ∧ Q_rm2 Z a1  h0 n0 v U'.heap L ∧ FrameEnd U o U' L ({ frames := 1, cells := 0, slots := 0, locals := 12 } : Room).cells ({ frames := 1, cells := 0, slots := 0, locals := 12 } : Room).slots) := by
  refine MetFree.of_bodySF (plainFor_of_name pn_0) hisR ?_
  intro p e s m args below meth c s₁ Bd hml0 hP hK
  obtain ⟨rfl, hZ, hh⟩ := hP
  have hx := Bd.exec
  have hby := Bd.bytes
  have hml : c.maxLocals = 1 := hml0
  have hown : s.vm.findClass "java/lang/Record" = some m.cls := findClass_of_methodNamed Bd.named
  have hnm := (name_of_methodNamed Bd.named Bd.method).1
  have X0 : Stand p l e ({ frames := 1, cells := 0, slots := 0, locals := 12 } : Room) s m #[(.ref a1)] below meth c s₁ [] 0 0 := Stand.of_body Bd
  have e0 : s₁.heap = h0 := by rw [← hh, Bd.state]; rfl
  have N0 := Fr.nil n0
  have pre0 : ∀ t, Steps p.tables e below (s₁.setTop (mkF m 0 #[.val (.ref a1)] [])) t → Steps p.tables e below (s₁.setTop (entryFrame m #[(.ref a1)] 1)) t := fun t k => castTop (ef_rm2 m a1) k
  have R0 : ∀ t, Steps p.tables e below (s₁.setTop (mkF m 0 #[.val (.ref a1)] [])) t → Steps p.tables e below (s₁.setTop (mkF m 0 #[.val (.ref a1)] [])) t := fun _ k => k
  have R1 : ∀ t, Steps p.tables e below (s₁.setTop (mkF m 1 #[.val (.ref a1)] [(.ref a1)])) t → Steps p.tables e below (s₁.setTop (mkF m 0 #[.val (.ref a1)] [])) t := by
    intro t k
    refine R0 t ?_
    refine XS.aloadN X0.here hx rfl (hb hby d2_0) rfl rfl ?_
    exact k
  obtain ⟨T2, X2, e2, st2⟩ := initO X0 hx hZ hown (hw _ (List.mem_of_getElem? (i := 11) rfl)) (hw _ (List.mem_of_getElem? (i := 12) rfl)) (hw _ (List.mem_of_getElem? (i := 13) rfl)) e0 (g := (mkF m 1 #[.val (.ref a1)] [(.ref a1)])) rfl (by rw [hml]; rfl) rfl (hb hby d2_1) (by decide) (W := 0) (by show 2 * 0 + _ ≤ _; exact Nat.le_of_eq rfl) (by decide)
  have R3 : ∀ t, Steps p.tables e below (T2.setTop (mkF m 4 #[.val (.ref a1)] [])) t → Steps p.tables e below (s₁.setTop (mkF m 0 #[.val (.ref a1)] [])) t := fun t k => R1 t (st2 _ k)
  obtain ⟨fs, hr, hrun, hended, hW, hsame⟩ := X2.leave (v := none) (fun _ => rfl)
  refine ⟨_, _, pre0 _ (R3 _ (X2.returnOut hx Bd.returns (hb hby d2_4) hr)), hrun, hended, _, _, rfl, ?_, ⟨_, rfl⟩, hW, hsame.mono (by decide) (by decide)⟩
  show Q_rm2 Z a1  h0 n0 _ T2.heap _
  rw [e2]
  exact ⟨rfl, N0, rfl⟩
theorem d1_0 : decode prog_105_method_1_code 0 = .ok (.aload_n 0, 1) := by decide +kernel
theorem d1_1 : decode prog_105_method_1_code 1 = .ok (.invokespecial 1, 3) := by decide +kernel
theorem d1_4 : decode prog_105_method_1_code 4 = .ok (.aload_n 0, 1) := by decide +kernel
theorem d1_5 : decode prog_105_method_1_code 5 = .ok (.lload_n 1, 1) := by decide +kernel
theorem d1_6 : decode prog_105_method_1_code 6 = .ok (.putfield 7, 3) := by decide +kernel
theorem d1_9 : decode prog_105_method_1_code 9 = .ok (.aload_n 0, 1) := by decide +kernel
theorem d1_10 : decode prog_105_method_1_code 10 = .ok (.lload_n 3, 1) := by decide +kernel
theorem d1_11 : decode prog_105_method_1_code 11 = .ok (.putfield 13, 3) := by decide +kernel
theorem d1_14 : decode prog_105_method_1_code 14 = .ok (.aload_n 0, 1) := by decide +kernel
theorem d1_15 : decode prog_105_method_1_code 15 = .ok (.lload 5, 2) := by decide +kernel
theorem d1_17 : decode prog_105_method_1_code 17 = .ok (.putfield 16, 3) := by decide +kernel
theorem d1_20 : decode prog_105_method_1_code 20 = .ok (.aload_n 0, 1) := by decide +kernel
theorem d1_21 : decode prog_105_method_1_code 21 = .ok (.lload 7, 2) := by decide +kernel
theorem d1_23 : decode prog_105_method_1_code 23 = .ok (.putfield 19, 3) := by decide +kernel
theorem d1_26 : decode prog_105_method_1_code 26 = .ok (.return_, 1) := by decide +kernel
theorem pn_1 : plainName "com/example/underwright/underwright/tape/Tape$Summary" = true := by first | (simp [plainName, overriddenIn]; done) | decide +kernel
theorem pd_0 : parseMethodDescriptor "()V" = some ⟨[], none⟩ := by decide +kernel
theorem ef_rm1 (m : MethodId) (x0 : Addr) (x1 : Int64) (x2 : Int64) (x3 : Int64) (x4 : Int64) : entryFrame m #[(.ref x0), (.long x1), (.long x2), (.long x3), (.long x4)] 9 = mkF m 0 #[.val (.ref x0), .val (.long x1), .second, .val (.long x2), .second, .val (.long x3), .second, .val (.long x4), .second] [] := by first | (simp [entryFrame, mkF, argsToLocals, Value.category]; done) | rfl
def Q_rm1 (Z : State) (a1 : Addr) (q1 : Int64) (q2 : Int64) (q3 : Int64) (q4 : Int64) (u1 : Value) (u2 : Value) (u3 : Value) (u4 : Value) (h0 : Heap) (n0 : Nat) (v : Option Value) (h : Heap) (L : List Loc) : Prop := v = none ∧ Fr n0 L ∧ Keep h0 h [a1] ∧ Fld Z h a1 "com/example/underwright/underwright/tape/Tape$Summary" "eligible" "J" (.long q1) ∧ Fld Z h a1 "com/example/underwright/underwright/tape/Tape$Summary" "ineligible" "J" (.long q2) ∧ Fld Z h a1 "com/example/underwright/underwright/tape/Tape$Summary" "incomplete" "J" (.long q3) ∧ Fld Z h a1 "com/example/underwright/underwright/tape/Tape$Summary" "errors" "J" (.long q4)
set_option maxRecDepth 65536 in
set_option maxHeartbeats 40000000 in
theorem rm1 (l : Launch) (Z : State) (a0 : Array Value) (hw : ∀ d ∈ tables_1, d.before a0 Z = true) (ws : List Jvm.Cond) (a1 : Addr) (q1 : Int64) (q2 : Int64) (q3 : Int64) (q4 : Int64) (u1 : Value) (u2 : Value) (u3 : Value) (u4 : Value) (h0 : Heap) (n0 : Nat) (Z0 : n0 ≤ h0.size) (E_0 : Exa Z h0 a1 "com/example/underwright/underwright/tape/Tape$Summary") (F_00 : Fld Z h0 a1 "com/example/underwright/underwright/tape/Tape$Summary" "eligible" "J" u1) (F_01 : Fld Z h0 a1 "com/example/underwright/underwright/tape/Tape$Summary" "ineligible" "J" u2) (F_02 : Fld Z h0 a1 "com/example/underwright/underwright/tape/Tape$Summary" "incomplete" "J" u3) (F_03 : Fld Z h0 a1 "com/example/underwright/underwright/tape/Tape$Summary" "errors" "J" u4) (n_a1 : n0 ≤ a1) :
    MetFree l (⟨"com/example/underwright/underwright/tape/Tape$Summary", "<init>", "(JJJJ)V"⟩ : MethodName) (head1 (Jvm.Cond.code (⟨"com/example/underwright/underwright/tape/Tape$Summary", "<init>", "(JJJJ)V"⟩ : MethodName) prog_105_method_1_code 9 none :: ws) ({ frames := 2, cells := 0, slots := 0, locals := 24 } : Room)) (fun a U => a = #[(.ref a1), (.long q1), (.long q2), (.long q3), (.long q4)] ∧ Z.Warmed39 U.vm ∧ U.heap = h0) (fun _ _ _ _ _ => True) (fun _ U o U' => ∃ v L, o = .returned v ∧ Q_rm1 Z a1 q1 q2 q3 q4 u1 u2 u3 u4 h0 n0 v U'.heap L ∧ FrameEnd U o U' L ({ frames := 2, cells := 0, slots := 0, locals := 24 } : Room).cells ({ frames := 2, cells := 0, slots := 0, locals := 24 } : Room).slots) := by
  refine MetFree.of_bodySF (plainFor_of_name pn_1) hisR ?_
  intro p e s m args below meth c s₁ Bd hml0 hP hK
  obtain ⟨rfl, hZ, hh⟩ := hP
  have hx := Bd.exec
  have hby := Bd.bytes
  have hml : c.maxLocals = 9 := hml0
  have hown : s.vm.findClass "com/example/underwright/underwright/tape/Tape$Summary" = some m.cls := findClass_of_methodNamed Bd.named
  have hnm := (name_of_methodNamed Bd.named Bd.method).1
  have X0 : Stand p l e ({ frames := 2, cells := 0, slots := 0, locals := 24 } : Room) s m #[(.ref a1), (.long q1), (.long q2), (.long q3), (.long q4)] below meth c s₁ [] 0 0 := Stand.of_body Bd
  have e0 : s₁.heap = h0 := by rw [← hh, Bd.state]; rfl
  have N0 := Fr.nil n0
  have pre0 : ∀ t, Steps p.tables e below (s₁.setTop (mkF m 0 #[.val (.ref a1), .val (.long q1), .second, .val (.long q2), .second, .val (.long q3), .second, .val (.long q4), .second] [])) t → Steps p.tables e below (s₁.setTop (entryFrame m #[(.ref a1), (.long q1), (.long q2), (.long q3), (.long q4)] 9)) t := fun t k => castTop (ef_rm1 m a1 q1 q2 q3 q4) k
  have R0 : ∀ t, Steps p.tables e below (s₁.setTop (mkF m 0 #[.val (.ref a1), .val (.long q1), .second, .val (.long q2), .second, .val (.long q3), .second, .val (.long q4), .second] [])) t → Steps p.tables e below (s₁.setTop (mkF m 0 #[.val (.ref a1), .val (.long q1), .second, .val (.long q2), .second, .val (.long q3), .second, .val (.long q4), .second] [])) t := fun _ k => k
  have R4 : ∀ t, Steps p.tables e below (s₁.setTop (mkF m 1 #[.val (.ref a1), .val (.long q1), .second, .val (.long q2), .second, .val (.long q3), .second, .val (.long q4), .second] [(.ref a1)])) t → Steps p.tables e below (s₁.setTop (mkF m 0 #[.val (.ref a1), .val (.long q1), .second, .val (.long q2), .second, .val (.long q3), .second, .val (.long q4), .second] [])) t := by
    intro t k
    refine R0 t ?_
    refine XS.aloadN X0.here hx rfl (hb hby d1_0) rfl rfl ?_
    exact k
  obtain ⟨_, _, ⟨T5, L5, k5, n5⟩, -, X5, ⟨Lc5, hQ5, l5, y5, z5⟩, st5⟩ := X0.specialBack hx (y := (⟨"java/lang/Record", "<init>", "()V"⟩ : MethodName)) rfl hown (mvT hZ (hw _ (List.mem_of_getElem? (i := 6) rfl))) (mvT hZ (hw _ (List.mem_of_getElem? (i := 7) rfl))) (mvT hZ (hw _ (List.mem_of_getElem? (i := 10) rfl))) (by decide) (backOf (W := 0) (rm2 l Z a0 hw [] a1  h0 n0 Z0 ) hZ (hw _ (List.mem_of_getElem? (i := 10) rfl)) (hw _ (List.mem_of_getElem? (i := 9) rfl)) (by decide) (by decide)) (g := (mkF m 1 #[.val (.ref a1), .val (.long q1), .second, .val (.long q2), .second, .val (.long q3), .second, .val (.long q4), .second] [(.ref a1)])) rfl (by rw [hml]; rfl) (Steps.refl _) (a := a1) (argsL := []) (rest := []) (lenOf pd_0 rfl) rfl (by show 2 * 0 + _ ≤ _; exact Nat.le_of_eq rfl) (hb hby d1_1) (fun _ _ => ⟨rfl, e0, (by decide : 0 + 0 ≤ _), (by decide : 0 + 0 ≤ _)⟩)
  dsimp only [Pt.U, Pt.locs, Pt.cells, Pt.slots] at X5 l5 y5 z5 st5 hQ5
  subst l5 y5 z5
  obtain ⟨rfl, M5, e5⟩ := hQ5
  have N5 := Fr.app N0 M5
  have R6 : ∀ t, Steps p.tables e below (T5.setTop (mkF m 4 #[.val (.ref a1), .val (.long q1), .second, .val (.long q2), .second, .val (.long q3), .second, .val (.long q4), .second] [])) t → Steps p.tables e below (s₁.setTop (mkF m 0 #[.val (.ref a1), .val (.long q1), .second, .val (.long q2), .second, .val (.long q3), .second, .val (.long q4), .second] [])) t := fun t k => R4 t (st5.trans k)
  have R7 : ∀ t, Steps p.tables e below (T5.setTop (mkF m 6 #[.val (.ref a1), .val (.long q1), .second, .val (.long q2), .second, .val (.long q3), .second, .val (.long q4), .second] [(.long q1), (.ref a1)])) t → Steps p.tables e below (s₁.setTop (mkF m 0 #[.val (.ref a1), .val (.long q1), .second, .val (.long q2), .second, .val (.long q3), .second, .val (.long q4), .second] [])) t := by
    intro t k
    refine R6 t ?_
    refine XS.aloadN X5.here hx rfl (hb hby d1_4) rfl rfl ?_
    refine XS.lloadN X5.here hx rfl (hb hby d1_5) rfl ?_
    exact k
  obtain ⟨T8, h8, X8, e8, W8, st8⟩ := putF X5 hx hZ hown (host := "") (Or.inl (hw _ (List.mem_of_getElem? (i := 14) rfl))) Via.refl e5 F_00 E_0 (Or.inr ⟨(hw _ (List.mem_of_getElem? (i := 15) rfl)), rfl, hnm⟩) (hw _ (List.mem_of_getElem? (i := 1) rfl)) (ty := .long) (by decide) rfl rfl (g := (mkF m 6 #[.val (.ref a1), .val (.long q1), .second, .val (.long q2), .second, .val (.long q3), .second, .val (.long q4), .second] [(.long q1), (.ref a1)])) rfl rfl (hb hby d1_6)
  have N8 := Fr.snoc X8 N5 n_a1
  have Z8 : n0 ≤ h8.size := Nat.le_trans Z0 (Keep.of_wr W8).1
  have K8 : Keep h0 h8 [a1] := (Keep.refl h0 [a1]).wr W8 (Or.inl (List.mem_of_getElem? (i := 0) rfl))
  have E_9 : Exa Z h8 a1 "com/example/underwright/underwright/tape/Tape$Summary" := E_0.wr W8
  have F_10 : Fld Z h8 a1 "com/example/underwright/underwright/tape/Tape$Summary" "eligible" "J" (.long q1) := F_00.same W8
  have F_11 : Fld Z h8 a1 "com/example/underwright/underwright/tape/Tape$Summary" "ineligible" "J" u2 := F_01.other W8 (Or.inr (slot_ne (Or.inr (hw _ (List.mem_of_getElem? (i := 17) rfl))) (Or.inr (hw _ (List.mem_of_getElem? (i := 15) rfl))) (by decide) (t := .long) (t' := .long) (by decide) (by decide)))
  have F_12 : Fld Z h8 a1 "com/example/underwright/underwright/tape/Tape$Summary" "incomplete" "J" u3 := F_02.other W8 (Or.inr (slot_ne (Or.inr (hw _ (List.mem_of_getElem? (i := 19) rfl))) (Or.inr (hw _ (List.mem_of_getElem? (i := 15) rfl))) (by decide) (t := .long) (t' := .long) (by decide) (by decide)))
  have F_13 : Fld Z h8 a1 "com/example/underwright/underwright/tape/Tape$Summary" "errors" "J" u4 := F_03.other W8 (Or.inr (slot_ne (Or.inr (hw _ (List.mem_of_getElem? (i := 21) rfl))) (Or.inr (hw _ (List.mem_of_getElem? (i := 15) rfl))) (by decide) (t := .long) (t' := .long) (by decide) (by decide)))
  have R14 : ∀ t, Steps p.tables e below (T8.setTop (mkF m 9 #[.val (.ref a1), .val (.long q1), .second, .val (.long q2), .second, .val (.long q3), .second, .val (.long q4), .second] [])) t → Steps p.tables e below (s₁.setTop (mkF m 0 #[.val (.ref a1), .val (.long q1), .second, .val (.long q2), .second, .val (.long q3), .second, .val (.long q4), .second] [])) t := fun t k => R7 t (st8 _ k)
  have R15 : ∀ t, Steps p.tables e below (T8.setTop (mkF m 11 #[.val (.ref a1), .val (.long q1), .second, .val (.long q2), .second, .val (.long q3), .second, .val (.long q4), .second] [(.long q2), (.ref a1)])) t → Steps p.tables e below (s₁.setTop (mkF m 0 #[.val (.ref a1), .val (.long q1), .second, .val (.long q2), .second, .val (.long q3), .second, .val (.long q4), .second] [])) t := by
    intro t k
    refine R14 t ?_
    refine XS.aloadN X8.here hx rfl (hb hby d1_9) rfl rfl ?_
    refine XS.lloadN X8.here hx rfl (hb hby d1_10) rfl ?_
    exact k
  obtain ⟨T16, h16, X16, e16, W16, st16⟩ := putF X8 hx hZ hown (host := "") (Or.inl (hw _ (List.mem_of_getElem? (i := 16) rfl))) Via.refl e8 F_11 E_9 (Or.inr ⟨(hw _ (List.mem_of_getElem? (i := 17) rfl)), rfl, hnm⟩) (hw _ (List.mem_of_getElem? (i := 1) rfl)) (ty := .long) (by decide) rfl rfl (g := (mkF m 11 #[.val (.ref a1), .val (.long q1), .second, .val (.long q2), .second, .val (.long q3), .second, .val (.long q4), .second] [(.long q2), (.ref a1)])) rfl rfl (hb hby d1_11)
  have N16 := Fr.snoc X16 N8 n_a1
  have Z16 : n0 ≤ h16.size := Nat.le_trans Z8 (Keep.of_wr W16).1
  have K16 : Keep h0 h16 [a1] := K8.wr W16 (Or.inl (List.mem_of_getElem? (i := 0) rfl))
  have E_17 : Exa Z h16 a1 "com/example/underwright/underwright/tape/Tape$Summary" := E_9.wr W16
  have F_18 : Fld Z h16 a1 "com/example/underwright/underwright/tape/Tape$Summary" "eligible" "J" (.long q1) := F_10.other W16 (Or.inr (slot_ne (Or.inr (hw _ (List.mem_of_getElem? (i := 15) rfl))) (Or.inr (hw _ (List.mem_of_getElem? (i := 17) rfl))) (by decide) (t := .long) (t' := .long) (by decide) (by decide)))
  have F_19 : Fld Z h16 a1 "com/example/underwright/underwright/tape/Tape$Summary" "ineligible" "J" (.long q2) := F_11.same W16
  have F_20 : Fld Z h16 a1 "com/example/underwright/underwright/tape/Tape$Summary" "incomplete" "J" u3 := F_12.other W16 (Or.inr (slot_ne (Or.inr (hw _ (List.mem_of_getElem? (i := 19) rfl))) (Or.inr (hw _ (List.mem_of_getElem? (i := 17) rfl))) (by decide) (t := .long) (t' := .long) (by decide) (by decide)))
  have F_21 : Fld Z h16 a1 "com/example/underwright/underwright/tape/Tape$Summary" "errors" "J" u4 := F_13.other W16 (Or.inr (slot_ne (Or.inr (hw _ (List.mem_of_getElem? (i := 21) rfl))) (Or.inr (hw _ (List.mem_of_getElem? (i := 17) rfl))) (by decide) (t := .long) (t' := .long) (by decide) (by decide)))
  have R22 : ∀ t, Steps p.tables e below (T16.setTop (mkF m 14 #[.val (.ref a1), .val (.long q1), .second, .val (.long q2), .second, .val (.long q3), .second, .val (.long q4), .second] [])) t → Steps p.tables e below (s₁.setTop (mkF m 0 #[.val (.ref a1), .val (.long q1), .second, .val (.long q2), .second, .val (.long q3), .second, .val (.long q4), .second] [])) t := fun t k => R15 t (st16 _ k)
  have R23 : ∀ t, Steps p.tables e below (T16.setTop (mkF m 17 #[.val (.ref a1), .val (.long q1), .second, .val (.long q2), .second, .val (.long q3), .second, .val (.long q4), .second] [(.long q3), (.ref a1)])) t → Steps p.tables e below (s₁.setTop (mkF m 0 #[.val (.ref a1), .val (.long q1), .second, .val (.long q2), .second, .val (.long q3), .second, .val (.long q4), .second] [])) t := by
    intro t k
    refine R22 t ?_
    refine XS.aloadN X16.here hx rfl (hb hby d1_14) rfl rfl ?_
    refine XS.lload X16.here hx rfl (hb hby d1_15) rfl ?_
    exact k
  obtain ⟨T24, h24, X24, e24, W24, st24⟩ := putF X16 hx hZ hown (host := "") (Or.inl (hw _ (List.mem_of_getElem? (i := 18) rfl))) Via.refl e16 F_20 E_17 (Or.inr ⟨(hw _ (List.mem_of_getElem? (i := 19) rfl)), rfl, hnm⟩) (hw _ (List.mem_of_getElem? (i := 1) rfl)) (ty := .long) (by decide) rfl rfl (g := (mkF m 17 #[.val (.ref a1), .val (.long q1), .second, .val (.long q2), .second, .val (.long q3), .second, .val (.long q4), .second] [(.long q3), (.ref a1)])) rfl rfl (hb hby d1_17)
  have N24 := Fr.snoc X24 N16 n_a1
  have Z24 : n0 ≤ h24.size := Nat.le_trans Z16 (Keep.of_wr W24).1
  have K24 : Keep h0 h24 [a1] := K16.wr W24 (Or.inl (List.mem_of_getElem? (i := 0) rfl))
  have E_25 : Exa Z h24 a1 "com/example/underwright/underwright/tape/Tape$Summary" := E_17.wr W24
  have F_26 : Fld Z h24 a1 "com/example/underwright/underwright/tape/Tape$Summary" "eligible" "J" (.long q1) := F_18.other W24 (Or.inr (slot_ne (Or.inr (hw _ (List.mem_of_getElem? (i := 15) rfl))) (Or.inr (hw _ (List.mem_of_getElem? (i := 19) rfl))) (by decide) (t := .long) (t' := .long) (by decide) (by decide)))
  have F_27 : Fld Z h24 a1 "com/example/underwright/underwright/tape/Tape$Summary" "ineligible" "J" (.long q2) := F_19.other W24 (Or.inr (slot_ne (Or.inr (hw _ (List.mem_of_getElem? (i := 17) rfl))) (Or.inr (hw _ (List.mem_of_getElem? (i := 19) rfl))) (by decide) (t := .long) (t' := .long) (by decide) (by decide)))
  have F_28 : Fld Z h24 a1 "com/example/underwright/underwright/tape/Tape$Summary" "incomplete" "J" (.long q3) := F_20.same W24
  have F_29 : Fld Z h24 a1 "com/example/underwright/underwright/tape/Tape$Summary" "errors" "J" u4 := F_21.other W24 (Or.inr (slot_ne (Or.inr (hw _ (List.mem_of_getElem? (i := 21) rfl))) (Or.inr (hw _ (List.mem_of_getElem? (i := 19) rfl))) (by decide) (t := .long) (t' := .long) (by decide) (by decide)))
  have R30 : ∀ t, Steps p.tables e below (T24.setTop (mkF m 20 #[.val (.ref a1), .val (.long q1), .second, .val (.long q2), .second, .val (.long q3), .second, .val (.long q4), .second] [])) t → Steps p.tables e below (s₁.setTop (mkF m 0 #[.val (.ref a1), .val (.long q1), .second, .val (.long q2), .second, .val (.long q3), .second, .val (.long q4), .second] [])) t := fun t k => R23 t (st24 _ k)
  have R31 : ∀ t, Steps p.tables e below (T24.setTop (mkF m 23 #[.val (.ref a1), .val (.long q1), .second, .val (.long q2), .second, .val (.long q3), .second, .val (.long q4), .second] [(.long q4), (.ref a1)])) t → Steps p.tables e below (s₁.setTop (mkF m 0 #[.val (.ref a1), .val (.long q1), .second, .val (.long q2), .second, .val (.long q3), .second, .val (.long q4), .second] [])) t := by
    intro t k
    refine R30 t ?_
    refine XS.aloadN X24.here hx rfl (hb hby d1_20) rfl rfl ?_
    refine XS.lload X24.here hx rfl (hb hby d1_21) rfl ?_
    exact k
  obtain ⟨T32, h32, X32, e32, W32, st32⟩ := putF X24 hx hZ hown (host := "") (Or.inl (hw _ (List.mem_of_getElem? (i := 20) rfl))) Via.refl e24 F_29 E_25 (Or.inr ⟨(hw _ (List.mem_of_getElem? (i := 21) rfl)), rfl, hnm⟩) (hw _ (List.mem_of_getElem? (i := 1) rfl)) (ty := .long) (by decide) rfl rfl (g := (mkF m 23 #[.val (.ref a1), .val (.long q1), .second, .val (.long q2), .second, .val (.long q3), .second, .val (.long q4), .second] [(.long q4), (.ref a1)])) rfl rfl (hb hby d1_23)
  have N32 := Fr.snoc X32 N24 n_a1
  have Z32 : n0 ≤ h32.size := Nat.le_trans Z24 (Keep.of_wr W32).1
  have K32 : Keep h0 h32 [a1] := K24.wr W32 (Or.inl (List.mem_of_getElem? (i := 0) rfl))
  have E_33 : Exa Z h32 a1 "com/example/underwright/underwright/tape/Tape$Summary" := E_25.wr W32
  have F_34 : Fld Z h32 a1 "com/example/underwright/underwright/tape/Tape$Summary" "eligible" "J" (.long q1) := F_26.other W32 (Or.inr (slot_ne (Or.inr (hw _ (List.mem_of_getElem? (i := 15) rfl))) (Or.inr (hw _ (List.mem_of_getElem? (i := 21) rfl))) (by decide) (t := .long) (t' := .long) (by decide) (by decide)))
  have F_35 : Fld Z h32 a1 "com/example/underwright/underwright/tape/Tape$Summary" "ineligible" "J" (.long q2) := F_27.other W32 (Or.inr (slot_ne (Or.inr (hw _ (List.mem_of_getElem? (i := 17) rfl))) (Or.inr (hw _ (List.mem_of_getElem? (i := 21) rfl))) (by decide) (t := .long) (t' := .long) (by decide) (by decide)))
  have F_36 : Fld Z h32 a1 "com/example/underwright/underwright/tape/Tape$Summary" "incomplete" "J" (.long q3) := F_28.other W32 (Or.inr (slot_ne (Or.inr (hw _ (List.mem_of_getElem? (i := 19) rfl))) (Or.inr (hw _ (List.mem_of_getElem? (i := 21) rfl))) (by decide) (t := .long) (t' := .long) (by decide) (by decide)))
  have F_37 : Fld Z h32 a1 "com/example/underwright/underwright/tape/Tape$Summary" "errors" "J" (.long q4) := F_29.same W32
  have R38 : ∀ t, Steps p.tables e below (T32.setTop (mkF m 26 #[.val (.ref a1), .val (.long q1), .second, .val (.long q2), .second, .val (.long q3), .second, .val (.long q4), .second] [])) t → Steps p.tables e below (s₁.setTop (mkF m 0 #[.val (.ref a1), .val (.long q1), .second, .val (.long q2), .second, .val (.long q3), .second, .val (.long q4), .second] [])) t := fun t k => R31 t (st32 _ k)
  obtain ⟨fs, hr, hrun, hended, hW, hsame⟩ := X32.leave (v := none) (fun _ => rfl)
  refine ⟨_, _, pre0 _ (R38 _ (X32.returnOut hx Bd.returns (hb hby d1_26) hr)), hrun, hended, _, _, rfl, ?_, ⟨_, rfl⟩, hW, hsame.mono (by decide) (by decide)⟩
  show Q_rm1 Z a1 q1 q2 q3 q4 u1 u2 u3 u4 h0 n0 _ T32.heap _
  rw [e32]
  exact ⟨rfl, N32, K32, F_34, F_35, F_36, F_37⟩
theorem d4_0 : decode prog_105_method_2_code 0 = .ok (.aload_n 0, 1) := by decide +kernel
theorem d4_1 : decode prog_105_method_2_code 1 = .ok (.getfield 7, 3) := by decide +kernel
theorem d4_4 : decode prog_105_method_2_code 4 = .ok (.aload_n 0, 1) := by decide +kernel
theorem d4_5 : decode prog_105_method_2_code 5 = .ok (.getfield 13, 3) := by decide +kernel
theorem d4_8 : decode prog_105_method_2_code 8 = .ok (.ladd, 1) := by decide +kernel
theorem d4_9 : decode prog_105_method_2_code 9 = .ok (.aload_n 0, 1) := by decide +kernel
theorem d4_10 : decode prog_105_method_2_code 10 = .ok (.getfield 16, 3) := by decide +kernel
theorem d4_13 : decode prog_105_method_2_code 13 = .ok (.ladd, 1) := by decide +kernel
theorem d4_14 : decode prog_105_method_2_code 14 = .ok (.aload_n 0, 1) := by decide +kernel
theorem d4_15 : decode prog_105_method_2_code 15 = .ok (.getfield 19, 3) := by decide +kernel
theorem d4_18 : decode prog_105_method_2_code 18 = .ok (.ladd, 1) := by decide +kernel
theorem d4_19 : decode prog_105_method_2_code 19 = .ok (.lreturn, 1) := by decide +kernel
theorem ef_rm4 (m : MethodId) (x0 : Addr) : entryFrame m #[(.ref x0)] 1 = mkF m 0 #[.val (.ref x0)] [] := by first | (simp [entryFrame, mkF, argsToLocals, Value.category]; done) | rfl
def Q_rm4 (Z : State) (a1 : Addr) (w1 w2 w3 w4 : Int64) (h0 : Heap) (n0 : Nat) (v : Option Value) (h : Heap) (L : List Loc) : Prop := v = some (.long (((w1 + w2) + w3) + w4)) ∧ Fr n0 L ∧ h = h0
set_option maxRecDepth 65536 in
set_option maxHeartbeats 40000000 in
theorem rm4 (l : Launch) (Z : State) (a0 : Array Value) (hw : ∀ d ∈ tables_1, d.before a0 Z = true) (ws : List Jvm.Cond) (a1 : Addr) (w1 w2 w3 w4 : Int64) (h0 : Heap) (n0 : Nat) (Z0 : n0 ≤ h0.size) (F_00 : Fld Z h0 a1 "com/example/underwright/underwright/tape/Tape$Summary" "eligible" "J" (.long w1)) (F_01 : Fld Z h0 a1 "com/example/underwright/underwright/tape/Tape$Summary" "ineligible" "J" (.long w2)) (F_02 : Fld Z h0 a1 "com/example/underwright/underwright/tape/Tape$Summary" "incomplete" "J" (.long w3)) (F_03 : Fld Z h0 a1 "com/example/underwright/underwright/tape/Tape$Summary" "errors" "J" (.long w4)) :
    MetFree l (⟨"com/example/underwright/underwright/tape/Tape$Summary", "loans", "()J"⟩ : MethodName) (head1 (Jvm.Cond.code (⟨"com/example/underwright/underwright/tape/Tape$Summary", "loans", "()J"⟩ : MethodName) prog_105_method_2_code 1 (some .long) :: ws) ({ frames := 0, cells := 0, slots := 0, locals := 0 } : Room)) (fun a U => a = #[(.ref a1)] ∧ Z.Warmed39 U.vm ∧ U.heap = h0) (fun _ _ _ _ _ => True) (fun _ U o U' => ∃ v L, o = .returned v ∧ Q_rm4 Z a1 w1 w2 w3 w4 h0 n0 v U'.heap L ∧ FrameEnd U o U' L ({ frames := 0, cells := 0, slots := 0, locals := 0 } : Room).cells ({ frames := 0, cells := 0, slots := 0, locals := 0 } : Room).slots) := by
  refine MetFree.of_bodySF (plainFor_of_name pn_1) hisR ?_
  intro p e s m args below meth c s₁ Bd hml0 hP hK
  obtain ⟨rfl, hZ, hh⟩ := hP
  have hx := Bd.exec
  have hby := Bd.bytes
  have hml : c.maxLocals = 1 := hml0
  have hown : s.vm.findClass "com/example/underwright/underwright/tape/Tape$Summary" = some m.cls := findClass_of_methodNamed Bd.named
  have hnm := (name_of_methodNamed Bd.named Bd.method).1
  have X0 : Stand p l e ({ frames := 0, cells := 0, slots := 0, locals := 0 } : Room) s m #[(.ref a1)] below meth c s₁ [] 0 0 := Stand.of_body Bd
  have e0 : s₁.heap = h0 := by rw [← hh, Bd.state]; rfl
  have N0 := Fr.nil n0
  have pre0 : ∀ t, Steps p.tables e below (s₁.setTop (mkF m 0 #[.val (.ref a1)] [])) t → Steps p.tables e below (s₁.setTop (entryFrame m #[(.ref a1)] 1)) t := fun t k => castTop (ef_rm4 m a1) k
  have R0 : ∀ t, Steps p.tables e below (s₁.setTop (mkF m 0 #[.val (.ref a1)] [])) t → Steps p.tables e below (s₁.setTop (mkF m 0 #[.val (.ref a1)] [])) t := fun _ k => k
  have R39 : ∀ t, Steps p.tables e below (s₁.setTop (mkF m 1 #[.val (.ref a1)] [(.ref a1)])) t → Steps p.tables e below (s₁.setTop (mkF m 0 #[.val (.ref a1)] [])) t := by
    intro t k
    refine R0 t ?_
    refine XS.aloadN X0.here hx rfl (hb hby d4_0) rfl rfl ?_
    exact k
  obtain ⟨T40, X40, e40, st40⟩ := getF X0 hx hZ hown (host := "") (Or.inl (hw _ (List.mem_of_getElem? (i := 14) rfl))) Via.refl e0 F_00 (g := (mkF m 1 #[.val (.ref a1)] [(.ref a1)])) rfl rfl (hb hby d4_1)
  have R41 : ∀ t, Steps p.tables e below (T40.setTop (mkF m 4 #[.val (.ref a1)] [(.long w1)])) t → Steps p.tables e below (s₁.setTop (mkF m 0 #[.val (.ref a1)] [])) t := fun t k => R39 t (st40 _ k)
  have R42 : ∀ t, Steps p.tables e below (T40.setTop (mkF m 5 #[.val (.ref a1)] [(.ref a1), (.long w1)])) t → Steps p.tables e below (s₁.setTop (mkF m 0 #[.val (.ref a1)] [])) t := by
    intro t k
    refine R41 t ?_
    refine XS.aloadN X40.here hx rfl (hb hby d4_4) rfl rfl ?_
    exact k
  obtain ⟨T43, X43, e43, st43⟩ := getF X40 hx hZ hown (host := "") (Or.inl (hw _ (List.mem_of_getElem? (i := 16) rfl))) Via.refl e40 F_01 (g := (mkF m 5 #[.val (.ref a1)] [(.ref a1), (.long w1)])) rfl rfl (hb hby d4_5)
  have R44 : ∀ t, Steps p.tables e below (T43.setTop (mkF m 8 #[.val (.ref a1)] [(.long w2), (.long w1)])) t → Steps p.tables e below (s₁.setTop (mkF m 0 #[.val (.ref a1)] [])) t := fun t k => R42 t (st43 _ k)
  have R45 : ∀ t, Steps p.tables e below (T43.setTop (mkF m 10 #[.val (.ref a1)] [(.ref a1), (.long (w1 + w2))])) t → Steps p.tables e below (s₁.setTop (mkF m 0 #[.val (.ref a1)] [])) t := by
    intro t k
    refine R44 t ?_
    refine XS.ladd X43.here hx rfl (hb hby d4_8) rfl ?_
    refine XS.aloadN X43.here hx rfl (hb hby d4_9) rfl rfl ?_
    exact k
  obtain ⟨T46, X46, e46, st46⟩ := getF X43 hx hZ hown (host := "") (Or.inl (hw _ (List.mem_of_getElem? (i := 18) rfl))) Via.refl e43 F_02 (g := (mkF m 10 #[.val (.ref a1)] [(.ref a1), (.long (w1 + w2))])) rfl rfl (hb hby d4_10)
  have R47 : ∀ t, Steps p.tables e below (T46.setTop (mkF m 13 #[.val (.ref a1)] [(.long w3), (.long (w1 + w2))])) t → Steps p.tables e below (s₁.setTop (mkF m 0 #[.val (.ref a1)] [])) t := fun t k => R45 t (st46 _ k)
  have R48 : ∀ t, Steps p.tables e below (T46.setTop (mkF m 15 #[.val (.ref a1)] [(.ref a1), (.long ((w1 + w2) + w3))])) t → Steps p.tables e below (s₁.setTop (mkF m 0 #[.val (.ref a1)] [])) t := by
    intro t k
    refine R47 t ?_
    refine XS.ladd X46.here hx rfl (hb hby d4_13) rfl ?_
    refine XS.aloadN X46.here hx rfl (hb hby d4_14) rfl rfl ?_
    exact k
  obtain ⟨T49, X49, e49, st49⟩ := getF X46 hx hZ hown (host := "") (Or.inl (hw _ (List.mem_of_getElem? (i := 20) rfl))) Via.refl e46 F_03 (g := (mkF m 15 #[.val (.ref a1)] [(.ref a1), (.long ((w1 + w2) + w3))])) rfl rfl (hb hby d4_15)
  have R50 : ∀ t, Steps p.tables e below (T49.setTop (mkF m 18 #[.val (.ref a1)] [(.long w4), (.long ((w1 + w2) + w3))])) t → Steps p.tables e below (s₁.setTop (mkF m 0 #[.val (.ref a1)] [])) t := fun t k => R48 t (st49 _ k)
  have R51 : ∀ t, Steps p.tables e below (T49.setTop (mkF m 19 #[.val (.ref a1)] [(.long (((w1 + w2) + w3) + w4))])) t → Steps p.tables e below (s₁.setTop (mkF m 0 #[.val (.ref a1)] [])) t := by
    intro t k
    refine R50 t ?_
    refine XS.ladd X49.here hx rfl (hb hby d4_18) rfl ?_
    exact k
  obtain ⟨fs, hr, hrun, hended, hW, hsame⟩ := X49.leave (v := some (.long (((w1 + w2) + w3) + w4))) (fun h => by rw [Bd.returns] at h; cases h)
  refine ⟨_, _, pre0 _ (R51 _ (retOut X49 hx (t := .long) Bd.returns rfl (Or.inr (Or.inl ⟨rfl, rfl, _, rfl⟩)) (hb hby d4_19) hr)), hrun, hended, _, _, rfl, ?_, ⟨_, rfl⟩, hW, hsame.mono (by decide) (by decide)⟩
  show Q_rm4 Z a1 w1 w2 w3 w4 h0 n0 _ T49.heap _
  rw [e49]
  exact ⟨rfl, N0, rfl⟩
theorem own_1 (q : Int64) : (((q + (0 : Int64)) + (0 : Int64)) + (0 : Int64)) = q := by simp
theorem own_2 (q : Int64) : ((((0 : Int64) + q) + (0 : Int64)) + (0 : Int64)) = q := by simp
theorem own_3 (q : Int64) : ((((0 : Int64) + (0 : Int64)) + q) + (0 : Int64)) = q := by simp
theorem own_4 (q : Int64) : ((((0 : Int64) + (0 : Int64)) + (0 : Int64)) + q) = q := by simp
theorem pn_2 : plainName "com/example/underwright/underwright/tape/SummaryLoansPinLaw" = true := by first | (simp [plainName, overriddenIn]; done) | decide +kernel
theorem pd_1 : parseMethodDescriptor "(JJJJ)V" = some ⟨[.long, .long, .long, .long], none⟩ := by decide +kernel
theorem pd_2 : parseMethodDescriptor "()J" = some ⟨[], some .long⟩ := by decide +kernel
theorem ef_rm0 (m : MethodId) (x0 : Int64) (x1 : Int64) (x2 : Int64) (x3 : Int64) : entryFrame m #[(.long x0), (.long x1), (.long x2), (.long x3)] maxLocals = mkF m 0 #[.val (.long x0), .second, .val (.long x1), .second, .val (.long x2), .second, .val (.long x3), .second, .unset, .unset, .unset, .unset, .unset, .unset, .unset, .unset, .unset, .unset, .unset, .unset, .unset, .unset, .unset, .unset, .unset] [] := by first | (simp [entryFrame, mkF, argsToLocals, Value.category, maxLocals]; done) | rfl
def Q_rm0 (Z : State) (q1 : Int64) (q2 : Int64) (q3 : Int64) (q4 : Int64)  (h0 : Heap) (n0 : Nat) (v : Option Value) (h : Heap) (L : List Loc) : Prop := v = some (.int (1 : Int32)) ∧ Fr n0 L
set_option maxRecDepth 65536 in
set_option maxHeartbeats 40000000 in
theorem rm0 (l : Launch) (Z : State) (a0 : Array Value) (hw : ∀ d ∈ tables_1, d.before a0 Z = true) (ws : List Jvm.Cond) (q1 : Int64) (q2 : Int64) (q3 : Int64) (q4 : Int64)  (h0 : Heap) (n0 : Nat) (Z0 : n0 ≤ h0.size)  :
    MetFree l x (head1 (Jvm.Cond.code x code maxLocals ret :: ws) room_1) (fun a U => a = #[(.long q1), (.long q2), (.long q3), (.long q4)] ∧ Z.Warmed39 U.vm ∧ U.heap = h0) (fun _ _ _ _ _ => True) (fun _ U o U' => ∃ v L, o = .returned v ∧ Q_rm0 Z q1 q2 q3 q4  h0 n0 v U'.heap L ∧ FrameEnd U o U' L room_1.cells room_1.slots) := by
  refine MetFree.of_bodySF (plainFor_of_name pn_2) hisR ?_
  intro p e s m args below meth c s₁ Bd hml0 hP hK
  obtain ⟨rfl, hZ, hh⟩ := hP
  have hx := Bd.exec
  have hby := Bd.bytes
  have hml : c.maxLocals = 25 := hml0
  have hown : s.vm.findClass "com/example/underwright/underwright/tape/SummaryLoansPinLaw" = some m.cls := findClass_of_methodNamed Bd.named
  have hnm := (name_of_methodNamed Bd.named Bd.method).1
  have X0 : Stand p l e room_1 s m #[(.long q1), (.long q2), (.long q3), (.long q4)] below meth c s₁ [] 0 0 := Stand.of_body Bd
  have e0 : s₁.heap = h0 := by rw [← hh, Bd.state]; rfl
  have N0 := Fr.nil n0
  have pre0 : ∀ t, Steps p.tables e below (s₁.setTop (mkF m 0 #[.val (.long q1), .second, .val (.long q2), .second, .val (.long q3), .second, .val (.long q4), .second, .unset, .unset, .unset, .unset, .unset, .unset, .unset, .unset, .unset, .unset, .unset, .unset, .unset, .unset, .unset, .unset, .unset] [])) t → Steps p.tables e below (s₁.setTop (entryFrame m #[(.long q1), (.long q2), (.long q3), (.long q4)] maxLocals)) t := fun t k => castTop (ef_rm0 m q1 q2 q3 q4) k
  have R0 : ∀ t, Steps p.tables e below (s₁.setTop (mkF m 0 #[.val (.long q1), .second, .val (.long q2), .second, .val (.long q3), .second, .val (.long q4), .second, .unset, .unset, .unset, .unset, .unset, .unset, .unset, .unset, .unset, .unset, .unset, .unset, .unset, .unset, .unset, .unset, .unset] [])) t → Steps p.tables e below (s₁.setTop (mkF m 0 #[.val (.long q1), .second, .val (.long q2), .second, .val (.long q3), .second, .val (.long q4), .second, .unset, .unset, .unset, .unset, .unset, .unset, .unset, .unset, .unset, .unset, .unset, .unset, .unset, .unset, .unset, .unset, .unset] [])) t := fun _ k => k
  obtain ⟨T52, h52, X52, e52, x52, A52, D52, -, st52⟩ := newO X0 hx hZ hown (hw _ (List.mem_of_getElem? (i := 0) rfl)) (hw _ (List.mem_of_getElem? (i := 1) rfl)) (hw _ (List.mem_of_getElem? (i := 2) rfl)) e0 (g := (mkF m 0 #[.val (.long q1), .second, .val (.long q2), .second, .val (.long q3), .second, .val (.long q4), .second, .unset, .unset, .unset, .unset, .unset, .unset, .unset, .unset, .unset, .unset, .unset, .unset, .unset, .unset, .unset, .unset, .unset] [])) rfl (hb hby at_0) (by decide) (by decide)
  obtain ⟨b1, g_b1⟩ : ∃ z, z = h0.size := ⟨_, rfl⟩
  rw [← g_b1] at A52 D52 st52
  have n_b1 : n0 ≤ b1 := Nat.le_trans Z0 (Nat.le_of_eq g_b1.symm)
  have Z52 : n0 ≤ h52.size := Nat.le_trans Z0 x52.1
  have F_53 : Fld Z h52 b1 "com/example/underwright/underwright/tape/Tape$Summary" "eligible" "J" (.long (0 : Int64)) := D52 (Or.inr (hw _ (List.mem_of_getElem? (i := 15) rfl))) (ty := .long) (by decide)
  have F_54 : Fld Z h52 b1 "com/example/underwright/underwright/tape/Tape$Summary" "ineligible" "J" (.long (0 : Int64)) := D52 (Or.inr (hw _ (List.mem_of_getElem? (i := 17) rfl))) (ty := .long) (by decide)
  have F_55 : Fld Z h52 b1 "com/example/underwright/underwright/tape/Tape$Summary" "incomplete" "J" (.long (0 : Int64)) := D52 (Or.inr (hw _ (List.mem_of_getElem? (i := 19) rfl))) (ty := .long) (by decide)
  have F_56 : Fld Z h52 b1 "com/example/underwright/underwright/tape/Tape$Summary" "errors" "J" (.long (0 : Int64)) := D52 (Or.inr (hw _ (List.mem_of_getElem? (i := 21) rfl))) (ty := .long) (by decide)
  have R57 : ∀ t, Steps p.tables e below (T52.setTop (mkF m 3 #[.val (.long q1), .second, .val (.long q2), .second, .val (.long q3), .second, .val (.long q4), .second, .unset, .unset, .unset, .unset, .unset, .unset, .unset, .unset, .unset, .unset, .unset, .unset, .unset, .unset, .unset, .unset, .unset] [(.ref b1)])) t → Steps p.tables e below (s₁.setTop (mkF m 0 #[.val (.long q1), .second, .val (.long q2), .second, .val (.long q3), .second, .val (.long q4), .second, .unset, .unset, .unset, .unset, .unset, .unset, .unset, .unset, .unset, .unset, .unset, .unset, .unset, .unset, .unset, .unset, .unset] [])) t := fun t k => R0 t (st52 _ k)
  have R58 : ∀ t, Steps p.tables e below (T52.setTop (mkF m 10 #[.val (.long q1), .second, .val (.long q2), .second, .val (.long q3), .second, .val (.long q4), .second, .unset, .unset, .unset, .unset, .unset, .unset, .unset, .unset, .unset, .unset, .unset, .unset, .unset, .unset, .unset, .unset, .unset] [(.long q4), (.long q3), (.long q2), (.long q1), (.ref b1), (.ref b1)])) t → Steps p.tables e below (s₁.setTop (mkF m 0 #[.val (.long q1), .second, .val (.long q2), .second, .val (.long q3), .second, .val (.long q4), .second, .unset, .unset, .unset, .unset, .unset, .unset, .unset, .unset, .unset, .unset, .unset, .unset, .unset, .unset, .unset, .unset, .unset] [])) t := by
    intro t k
    refine R57 t ?_
    refine XS.dup X52.here hx rfl (hb hby at_3) rfl rfl ?_
    refine XS.lloadN X52.here hx rfl (hb hby at_4) rfl ?_
    refine XS.lloadN X52.here hx rfl (hb hby at_5) rfl ?_
    refine XS.lload X52.here hx rfl (hb hby at_6) rfl ?_
    refine XS.lload X52.here hx rfl (hb hby at_8) rfl ?_
    exact k
  obtain ⟨_, _, ⟨T59, L59, k59, n59⟩, -, X59, ⟨Lc59, hQ59, l59, y59, z59⟩, st59⟩ := X52.specialBack hx (y := (⟨"com/example/underwright/underwright/tape/Tape$Summary", "<init>", "(JJJJ)V"⟩ : MethodName)) rfl hown (mvT hZ (hw _ (List.mem_of_getElem? (i := 3) rfl))) (mvT hZ (hw _ (List.mem_of_getElem? (i := 4) rfl))) (mvT hZ (hw _ (List.mem_of_getElem? (i := 5) rfl))) (by decide) (backOf (W := 1) (rm1 l Z a0 hw [] b1 q1 q2 q3 q4 (.long (0 : Int64)) (.long (0 : Int64)) (.long (0 : Int64)) (.long (0 : Int64)) h52 n0 Z52 A52 F_53 F_54 F_55 F_56 n_b1) hZ (hw _ (List.mem_of_getElem? (i := 5) rfl)) (hw _ (List.mem_of_getElem? (i := 2) rfl)) (by decide) (by decide)) (g := (mkF m 10 #[.val (.long q1), .second, .val (.long q2), .second, .val (.long q3), .second, .val (.long q4), .second, .unset, .unset, .unset, .unset, .unset, .unset, .unset, .unset, .unset, .unset, .unset, .unset, .unset, .unset, .unset, .unset, .unset] [(.long q4), (.long q3), (.long q2), (.long q1), (.ref b1), (.ref b1)])) rfl (by rw [hml]; rfl) (Steps.refl _) (a := b1) (argsL := [(.long q1), (.long q2), (.long q3), (.long q4)]) (rest := [(.ref b1)]) (lenOf pd_1 rfl) rfl (by show 2 * 0 + _ ≤ _; exact Nat.le_of_eq rfl) (hb hby at_10) (fun _ _ => ⟨rfl, e52, (by decide : 1 + 0 ≤ _), (by decide : 4 + 0 ≤ _)⟩)
  dsimp only [Pt.U, Pt.locs, Pt.cells, Pt.slots] at X59 l59 y59 z59 st59 hQ59
  subst l59 y59 z59
  obtain ⟨rfl, M59, J59, Fa59, Fb59, Fc59, Fd59⟩ := hQ59
  have Z59 : n0 ≤ T59.heap.size := Nat.le_trans Z52 J59.1
  have E_60 : Exa Z T59.heap b1 "com/example/underwright/underwright/tape/Tape$Summary" := A52.keep J59
  have N59 := Fr.app N0 M59
  have R61 : ∀ t, Steps p.tables e below (T59.setTop (mkF m 13 #[.val (.long q1), .second, .val (.long q2), .second, .val (.long q3), .second, .val (.long q4), .second, .unset, .unset, .unset, .unset, .unset, .unset, .unset, .unset, .unset, .unset, .unset, .unset, .unset, .unset, .unset, .unset, .unset] [(.ref b1)])) t → Steps p.tables e below (s₁.setTop (mkF m 0 #[.val (.long q1), .second, .val (.long q2), .second, .val (.long q3), .second, .val (.long q4), .second, .unset, .unset, .unset, .unset, .unset, .unset, .unset, .unset, .unset, .unset, .unset, .unset, .unset, .unset, .unset, .unset, .unset] [])) t := fun t k => R58 t (st59.trans k)
  have R62 : ∀ t, Steps p.tables e below (T59.setTop (mkF m 15 #[.val (.long q1), .second, .val (.long q2), .second, .val (.long q3), .second, .val (.long q4), .second, .val (.ref b1), .unset, .unset, .unset, .unset, .unset, .unset, .unset, .unset, .unset, .unset, .unset, .unset, .unset, .unset, .unset, .unset] [])) t → Steps p.tables e below (s₁.setTop (mkF m 0 #[.val (.long q1), .second, .val (.long q2), .second, .val (.long q3), .second, .val (.long q4), .second, .unset, .unset, .unset, .unset, .unset, .unset, .unset, .unset, .unset, .unset, .unset, .unset, .unset, .unset, .unset, .unset, .unset] [])) t := by
    intro t k
    refine R61 t ?_
    refine XS.astore X59.here hx rfl (hb hby at_13) rfl rfl (l' := #[.val (.long q1), .second, .val (.long q2), .second, .val (.long q3), .second, .val (.long q4), .second, .val (.ref b1), .unset, .unset, .unset, .unset, .unset, .unset, .unset, .unset, .unset, .unset, .unset, .unset, .unset, .unset, .unset, .unset]) rfl ?_
    exact k
  obtain ⟨T63, h63, X63, e63, x63, A63, D63, -, st63⟩ := newO X59 hx hZ hown (hw _ (List.mem_of_getElem? (i := 0) rfl)) (hw _ (List.mem_of_getElem? (i := 1) rfl)) (hw _ (List.mem_of_getElem? (i := 2) rfl)) rfl (g := (mkF m 15 #[.val (.long q1), .second, .val (.long q2), .second, .val (.long q3), .second, .val (.long q4), .second, .val (.ref b1), .unset, .unset, .unset, .unset, .unset, .unset, .unset, .unset, .unset, .unset, .unset, .unset, .unset, .unset, .unset, .unset] [])) rfl (hb hby at_15) (by decide) (by decide)
  obtain ⟨b2, g_b2⟩ : ∃ z, z = T59.heap.size := ⟨_, rfl⟩
  rw [← g_b2] at A63 D63 st63
  have ne_b1_b2 : b1 ≠ b2 := Nat.ne_of_lt (Nat.lt_of_lt_of_eq E_60.lt g_b2.symm)
  have n_b2 : n0 ≤ b2 := Nat.le_trans Z59 (Nat.le_of_eq g_b2.symm)
  have Z63 : n0 ≤ h63.size := Nat.le_trans Z59 x63.1
  have E_64 : Exa Z h63 b1 "com/example/underwright/underwright/tape/Tape$Summary" := E_60.ext x63
  have F_65 : Fld Z h63 b1 "com/example/underwright/underwright/tape/Tape$Summary" "eligible" "J" (.long q1) := Fa59.ext x63
  have F_66 : Fld Z h63 b1 "com/example/underwright/underwright/tape/Tape$Summary" "ineligible" "J" (.long q2) := Fb59.ext x63
  have F_67 : Fld Z h63 b1 "com/example/underwright/underwright/tape/Tape$Summary" "incomplete" "J" (.long q3) := Fc59.ext x63
  have F_68 : Fld Z h63 b1 "com/example/underwright/underwright/tape/Tape$Summary" "errors" "J" (.long q4) := Fd59.ext x63
  have F_69 : Fld Z h63 b2 "com/example/underwright/underwright/tape/Tape$Summary" "eligible" "J" (.long (0 : Int64)) := D63 (Or.inr (hw _ (List.mem_of_getElem? (i := 15) rfl))) (ty := .long) (by decide)
  have F_70 : Fld Z h63 b2 "com/example/underwright/underwright/tape/Tape$Summary" "ineligible" "J" (.long (0 : Int64)) := D63 (Or.inr (hw _ (List.mem_of_getElem? (i := 17) rfl))) (ty := .long) (by decide)
  have F_71 : Fld Z h63 b2 "com/example/underwright/underwright/tape/Tape$Summary" "incomplete" "J" (.long (0 : Int64)) := D63 (Or.inr (hw _ (List.mem_of_getElem? (i := 19) rfl))) (ty := .long) (by decide)
  have F_72 : Fld Z h63 b2 "com/example/underwright/underwright/tape/Tape$Summary" "errors" "J" (.long (0 : Int64)) := D63 (Or.inr (hw _ (List.mem_of_getElem? (i := 21) rfl))) (ty := .long) (by decide)
  have R73 : ∀ t, Steps p.tables e below (T63.setTop (mkF m 18 #[.val (.long q1), .second, .val (.long q2), .second, .val (.long q3), .second, .val (.long q4), .second, .val (.ref b1), .unset, .unset, .unset, .unset, .unset, .unset, .unset, .unset, .unset, .unset, .unset, .unset, .unset, .unset, .unset, .unset] [(.ref b2)])) t → Steps p.tables e below (s₁.setTop (mkF m 0 #[.val (.long q1), .second, .val (.long q2), .second, .val (.long q3), .second, .val (.long q4), .second, .unset, .unset, .unset, .unset, .unset, .unset, .unset, .unset, .unset, .unset, .unset, .unset, .unset, .unset, .unset, .unset, .unset] [])) t := fun t k => R62 t (st63 _ k)
  have R74 : ∀ t, Steps p.tables e below (T63.setTop (mkF m 23 #[.val (.long q1), .second, .val (.long q2), .second, .val (.long q3), .second, .val (.long q4), .second, .val (.ref b1), .unset, .unset, .unset, .unset, .unset, .unset, .unset, .unset, .unset, .unset, .unset, .unset, .unset, .unset, .unset, .unset] [(.long (0 : Int64)), (.long (0 : Int64)), (.long (0 : Int64)), (.long q1), (.ref b2), (.ref b2)])) t → Steps p.tables e below (s₁.setTop (mkF m 0 #[.val (.long q1), .second, .val (.long q2), .second, .val (.long q3), .second, .val (.long q4), .second, .unset, .unset, .unset, .unset, .unset, .unset, .unset, .unset, .unset, .unset, .unset, .unset, .unset, .unset, .unset, .unset, .unset] [])) t := by
    intro t k
    refine R73 t ?_
    refine XS.dup X63.here hx rfl (hb hby at_18) rfl rfl ?_
    refine XS.lloadN X63.here hx rfl (hb hby at_19) rfl ?_
    refine XS.lconst X63.here hx rfl (hb hby at_20) ?_
    refine XS.lconst X63.here hx rfl (hb hby at_21) ?_
    refine XS.lconst X63.here hx rfl (hb hby at_22) ?_
    exact k
  obtain ⟨_, _, ⟨T75, L75, k75, n75⟩, -, X75, ⟨Lc75, hQ75, l75, y75, z75⟩, st75⟩ := X63.specialBack hx (y := (⟨"com/example/underwright/underwright/tape/Tape$Summary", "<init>", "(JJJJ)V"⟩ : MethodName)) rfl hown (mvT hZ (hw _ (List.mem_of_getElem? (i := 3) rfl))) (mvT hZ (hw _ (List.mem_of_getElem? (i := 4) rfl))) (mvT hZ (hw _ (List.mem_of_getElem? (i := 5) rfl))) (by decide) (backOf (W := 1) (rm1 l Z a0 hw [] b2 q1 (0 : Int64) (0 : Int64) (0 : Int64) (.long (0 : Int64)) (.long (0 : Int64)) (.long (0 : Int64)) (.long (0 : Int64)) h63 n0 Z63 A63 F_69 F_70 F_71 F_72 n_b2) hZ (hw _ (List.mem_of_getElem? (i := 5) rfl)) (hw _ (List.mem_of_getElem? (i := 2) rfl)) (by decide) (by decide)) (g := (mkF m 23 #[.val (.long q1), .second, .val (.long q2), .second, .val (.long q3), .second, .val (.long q4), .second, .val (.ref b1), .unset, .unset, .unset, .unset, .unset, .unset, .unset, .unset, .unset, .unset, .unset, .unset, .unset, .unset, .unset, .unset] [(.long (0 : Int64)), (.long (0 : Int64)), (.long (0 : Int64)), (.long q1), (.ref b2), (.ref b2)])) rfl (by rw [hml]; rfl) (Steps.refl _) (a := b2) (argsL := [(.long q1), (.long (0 : Int64)), (.long (0 : Int64)), (.long (0 : Int64))]) (rest := [(.ref b2)]) (lenOf pd_1 rfl) rfl (by show 2 * 0 + _ ≤ _; exact Nat.le_of_eq rfl) (hb hby at_23) (fun _ _ => ⟨rfl, e63, (by decide : 2 + 0 ≤ _), (by decide : 8 + 0 ≤ _)⟩)
  dsimp only [Pt.U, Pt.locs, Pt.cells, Pt.slots] at X75 l75 y75 z75 st75 hQ75
  subst l75 y75 z75
  obtain ⟨rfl, M75, J75, Fa75, Fb75, Fc75, Fd75⟩ := hQ75
  have Z75 : n0 ≤ T75.heap.size := Nat.le_trans Z63 J75.1
  have E_76 : Exa Z T75.heap b1 "com/example/underwright/underwright/tape/Tape$Summary" := E_64.keep J75
  have F_77 : Fld Z T75.heap b1 "com/example/underwright/underwright/tape/Tape$Summary" "eligible" "J" (.long q1) := F_65.keep J75 (ninS ne_b1_b2 nin0)
  have F_78 : Fld Z T75.heap b1 "com/example/underwright/underwright/tape/Tape$Summary" "ineligible" "J" (.long q2) := F_66.keep J75 (ninS ne_b1_b2 nin0)
  have F_79 : Fld Z T75.heap b1 "com/example/underwright/underwright/tape/Tape$Summary" "incomplete" "J" (.long q3) := F_67.keep J75 (ninS ne_b1_b2 nin0)
  have F_80 : Fld Z T75.heap b1 "com/example/underwright/underwright/tape/Tape$Summary" "errors" "J" (.long q4) := F_68.keep J75 (ninS ne_b1_b2 nin0)
  have E_81 : Exa Z T75.heap b2 "com/example/underwright/underwright/tape/Tape$Summary" := A63.keep J75
  have N75 := Fr.app N59 M75
  have R82 : ∀ t, Steps p.tables e below (T75.setTop (mkF m 26 #[.val (.long q1), .second, .val (.long q2), .second, .val (.long q3), .second, .val (.long q4), .second, .val (.ref b1), .unset, .unset, .unset, .unset, .unset, .unset, .unset, .unset, .unset, .unset, .unset, .unset, .unset, .unset, .unset, .unset] [(.ref b2)])) t → Steps p.tables e below (s₁.setTop (mkF m 0 #[.val (.long q1), .second, .val (.long q2), .second, .val (.long q3), .second, .val (.long q4), .second, .unset, .unset, .unset, .unset, .unset, .unset, .unset, .unset, .unset, .unset, .unset, .unset, .unset, .unset, .unset, .unset, .unset] [])) t := fun t k => R74 t (st75.trans k)
  have R83 : ∀ t, Steps p.tables e below (T75.setTop (mkF m 28 #[.val (.long q1), .second, .val (.long q2), .second, .val (.long q3), .second, .val (.long q4), .second, .val (.ref b1), .val (.ref b2), .unset, .unset, .unset, .unset, .unset, .unset, .unset, .unset, .unset, .unset, .unset, .unset, .unset, .unset, .unset] [])) t → Steps p.tables e below (s₁.setTop (mkF m 0 #[.val (.long q1), .second, .val (.long q2), .second, .val (.long q3), .second, .val (.long q4), .second, .unset, .unset, .unset, .unset, .unset, .unset, .unset, .unset, .unset, .unset, .unset, .unset, .unset, .unset, .unset, .unset, .unset] [])) t := by
    intro t k
    refine R82 t ?_
    refine XS.astore X75.here hx rfl (hb hby at_26) rfl rfl (l' := #[.val (.long q1), .second, .val (.long q2), .second, .val (.long q3), .second, .val (.long q4), .second, .val (.ref b1), .val (.ref b2), .unset, .unset, .unset, .unset, .unset, .unset, .unset, .unset, .unset, .unset, .unset, .unset, .unset, .unset, .unset]) rfl ?_
    exact k
  obtain ⟨T84, h84, X84, e84, x84, A84, D84, -, st84⟩ := newO X75 hx hZ hown (hw _ (List.mem_of_getElem? (i := 0) rfl)) (hw _ (List.mem_of_getElem? (i := 1) rfl)) (hw _ (List.mem_of_getElem? (i := 2) rfl)) rfl (g := (mkF m 28 #[.val (.long q1), .second, .val (.long q2), .second, .val (.long q3), .second, .val (.long q4), .second, .val (.ref b1), .val (.ref b2), .unset, .unset, .unset, .unset, .unset, .unset, .unset, .unset, .unset, .unset, .unset, .unset, .unset, .unset, .unset] [])) rfl (hb hby at_28) (by decide) (by decide)
  obtain ⟨b3, g_b3⟩ : ∃ z, z = T75.heap.size := ⟨_, rfl⟩
  rw [← g_b3] at A84 D84 st84
  have ne_b1_b3 : b1 ≠ b3 := Nat.ne_of_lt (Nat.lt_of_lt_of_eq E_76.lt g_b3.symm)
  have ne_b2_b3 : b2 ≠ b3 := Nat.ne_of_lt (Nat.lt_of_lt_of_eq E_81.lt g_b3.symm)
  have n_b3 : n0 ≤ b3 := Nat.le_trans Z75 (Nat.le_of_eq g_b3.symm)
  have Z84 : n0 ≤ h84.size := Nat.le_trans Z75 x84.1
  have E_85 : Exa Z h84 b1 "com/example/underwright/underwright/tape/Tape$Summary" := E_76.ext x84
  have F_86 : Fld Z h84 b1 "com/example/underwright/underwright/tape/Tape$Summary" "eligible" "J" (.long q1) := F_77.ext x84
  have F_87 : Fld Z h84 b1 "com/example/underwright/underwright/tape/Tape$Summary" "ineligible" "J" (.long q2) := F_78.ext x84
  have F_88 : Fld Z h84 b1 "com/example/underwright/underwright/tape/Tape$Summary" "incomplete" "J" (.long q3) := F_79.ext x84
  have F_89 : Fld Z h84 b1 "com/example/underwright/underwright/tape/Tape$Summary" "errors" "J" (.long q4) := F_80.ext x84
  have E_90 : Exa Z h84 b2 "com/example/underwright/underwright/tape/Tape$Summary" := E_81.ext x84
  have F_91 : Fld Z h84 b2 "com/example/underwright/underwright/tape/Tape$Summary" "eligible" "J" (.long q1) := Fa75.ext x84
  have F_92 : Fld Z h84 b2 "com/example/underwright/underwright/tape/Tape$Summary" "ineligible" "J" (.long (0 : Int64)) := Fb75.ext x84
  have F_93 : Fld Z h84 b2 "com/example/underwright/underwright/tape/Tape$Summary" "incomplete" "J" (.long (0 : Int64)) := Fc75.ext x84
  have F_94 : Fld Z h84 b2 "com/example/underwright/underwright/tape/Tape$Summary" "errors" "J" (.long (0 : Int64)) := Fd75.ext x84
  have F_95 : Fld Z h84 b3 "com/example/underwright/underwright/tape/Tape$Summary" "eligible" "J" (.long (0 : Int64)) := D84 (Or.inr (hw _ (List.mem_of_getElem? (i := 15) rfl))) (ty := .long) (by decide)
  have F_96 : Fld Z h84 b3 "com/example/underwright/underwright/tape/Tape$Summary" "ineligible" "J" (.long (0 : Int64)) := D84 (Or.inr (hw _ (List.mem_of_getElem? (i := 17) rfl))) (ty := .long) (by decide)
  have F_97 : Fld Z h84 b3 "com/example/underwright/underwright/tape/Tape$Summary" "incomplete" "J" (.long (0 : Int64)) := D84 (Or.inr (hw _ (List.mem_of_getElem? (i := 19) rfl))) (ty := .long) (by decide)
  have F_98 : Fld Z h84 b3 "com/example/underwright/underwright/tape/Tape$Summary" "errors" "J" (.long (0 : Int64)) := D84 (Or.inr (hw _ (List.mem_of_getElem? (i := 21) rfl))) (ty := .long) (by decide)
  have R99 : ∀ t, Steps p.tables e below (T84.setTop (mkF m 31 #[.val (.long q1), .second, .val (.long q2), .second, .val (.long q3), .second, .val (.long q4), .second, .val (.ref b1), .val (.ref b2), .unset, .unset, .unset, .unset, .unset, .unset, .unset, .unset, .unset, .unset, .unset, .unset, .unset, .unset, .unset] [(.ref b3)])) t → Steps p.tables e below (s₁.setTop (mkF m 0 #[.val (.long q1), .second, .val (.long q2), .second, .val (.long q3), .second, .val (.long q4), .second, .unset, .unset, .unset, .unset, .unset, .unset, .unset, .unset, .unset, .unset, .unset, .unset, .unset, .unset, .unset, .unset, .unset] [])) t := fun t k => R83 t (st84 _ k)
  have R100 : ∀ t, Steps p.tables e below (T84.setTop (mkF m 36 #[.val (.long q1), .second, .val (.long q2), .second, .val (.long q3), .second, .val (.long q4), .second, .val (.ref b1), .val (.ref b2), .unset, .unset, .unset, .unset, .unset, .unset, .unset, .unset, .unset, .unset, .unset, .unset, .unset, .unset, .unset] [(.long (0 : Int64)), (.long (0 : Int64)), (.long q2), (.long (0 : Int64)), (.ref b3), (.ref b3)])) t → Steps p.tables e below (s₁.setTop (mkF m 0 #[.val (.long q1), .second, .val (.long q2), .second, .val (.long q3), .second, .val (.long q4), .second, .unset, .unset, .unset, .unset, .unset, .unset, .unset, .unset, .unset, .unset, .unset, .unset, .unset, .unset, .unset, .unset, .unset] [])) t := by
    intro t k
    refine R99 t ?_
    refine XS.dup X84.here hx rfl (hb hby at_31) rfl rfl ?_
    refine XS.lconst X84.here hx rfl (hb hby at_32) ?_
    refine XS.lloadN X84.here hx rfl (hb hby at_33) rfl ?_
    refine XS.lconst X84.here hx rfl (hb hby at_34) ?_
    refine XS.lconst X84.here hx rfl (hb hby at_35) ?_
    exact k
  obtain ⟨_, _, ⟨T101, L101, k101, n101⟩, -, X101, ⟨Lc101, hQ101, l101, y101, z101⟩, st101⟩ := X84.specialBack hx (y := (⟨"com/example/underwright/underwright/tape/Tape$Summary", "<init>", "(JJJJ)V"⟩ : MethodName)) rfl hown (mvT hZ (hw _ (List.mem_of_getElem? (i := 3) rfl))) (mvT hZ (hw _ (List.mem_of_getElem? (i := 4) rfl))) (mvT hZ (hw _ (List.mem_of_getElem? (i := 5) rfl))) (by decide) (backOf (W := 1) (rm1 l Z a0 hw [] b3 (0 : Int64) q2 (0 : Int64) (0 : Int64) (.long (0 : Int64)) (.long (0 : Int64)) (.long (0 : Int64)) (.long (0 : Int64)) h84 n0 Z84 A84 F_95 F_96 F_97 F_98 n_b3) hZ (hw _ (List.mem_of_getElem? (i := 5) rfl)) (hw _ (List.mem_of_getElem? (i := 2) rfl)) (by decide) (by decide)) (g := (mkF m 36 #[.val (.long q1), .second, .val (.long q2), .second, .val (.long q3), .second, .val (.long q4), .second, .val (.ref b1), .val (.ref b2), .unset, .unset, .unset, .unset, .unset, .unset, .unset, .unset, .unset, .unset, .unset, .unset, .unset, .unset, .unset] [(.long (0 : Int64)), (.long (0 : Int64)), (.long q2), (.long (0 : Int64)), (.ref b3), (.ref b3)])) rfl (by rw [hml]; rfl) (Steps.refl _) (a := b3) (argsL := [(.long (0 : Int64)), (.long q2), (.long (0 : Int64)), (.long (0 : Int64))]) (rest := [(.ref b3)]) (lenOf pd_1 rfl) rfl (by show 2 * 0 + _ ≤ _; exact Nat.le_of_eq rfl) (hb hby at_36) (fun _ _ => ⟨rfl, e84, (by decide : 3 + 0 ≤ _), (by decide : 12 + 0 ≤ _)⟩)
  dsimp only [Pt.U, Pt.locs, Pt.cells, Pt.slots] at X101 l101 y101 z101 st101 hQ101
  subst l101 y101 z101
  obtain ⟨rfl, M101, J101, Fa101, Fb101, Fc101, Fd101⟩ := hQ101
  have Z101 : n0 ≤ T101.heap.size := Nat.le_trans Z84 J101.1
  have E_102 : Exa Z T101.heap b1 "com/example/underwright/underwright/tape/Tape$Summary" := E_85.keep J101
  have F_103 : Fld Z T101.heap b1 "com/example/underwright/underwright/tape/Tape$Summary" "eligible" "J" (.long q1) := F_86.keep J101 (ninS ne_b1_b3 nin0)
  have F_104 : Fld Z T101.heap b1 "com/example/underwright/underwright/tape/Tape$Summary" "ineligible" "J" (.long q2) := F_87.keep J101 (ninS ne_b1_b3 nin0)
  have F_105 : Fld Z T101.heap b1 "com/example/underwright/underwright/tape/Tape$Summary" "incomplete" "J" (.long q3) := F_88.keep J101 (ninS ne_b1_b3 nin0)
  have F_106 : Fld Z T101.heap b1 "com/example/underwright/underwright/tape/Tape$Summary" "errors" "J" (.long q4) := F_89.keep J101 (ninS ne_b1_b3 nin0)
  have E_107 : Exa Z T101.heap b2 "com/example/underwright/underwright/tape/Tape$Summary" := E_90.keep J101
  have F_108 : Fld Z T101.heap b2 "com/example/underwright/underwright/tape/Tape$Summary" "eligible" "J" (.long q1) := F_91.keep J101 (ninS ne_b2_b3 nin0)
  have F_109 : Fld Z T101.heap b2 "com/example/underwright/underwright/tape/Tape$Summary" "ineligible" "J" (.long (0 : Int64)) := F_92.keep J101 (ninS ne_b2_b3 nin0)
  have F_110 : Fld Z T101.heap b2 "com/example/underwright/underwright/tape/Tape$Summary" "incomplete" "J" (.long (0 : Int64)) := F_93.keep J101 (ninS ne_b2_b3 nin0)
  have F_111 : Fld Z T101.heap b2 "com/example/underwright/underwright/tape/Tape$Summary" "errors" "J" (.long (0 : Int64)) := F_94.keep J101 (ninS ne_b2_b3 nin0)
  have E_112 : Exa Z T101.heap b3 "com/example/underwright/underwright/tape/Tape$Summary" := A84.keep J101
  have N101 := Fr.app N75 M101
  have R113 : ∀ t, Steps p.tables e below (T101.setTop (mkF m 39 #[.val (.long q1), .second, .val (.long q2), .second, .val (.long q3), .second, .val (.long q4), .second, .val (.ref b1), .val (.ref b2), .unset, .unset, .unset, .unset, .unset, .unset, .unset, .unset, .unset, .unset, .unset, .unset, .unset, .unset, .unset] [(.ref b3)])) t → Steps p.tables e below (s₁.setTop (mkF m 0 #[.val (.long q1), .second, .val (.long q2), .second, .val (.long q3), .second, .val (.long q4), .second, .unset, .unset, .unset, .unset, .unset, .unset, .unset, .unset, .unset, .unset, .unset, .unset, .unset, .unset, .unset, .unset, .unset] [])) t := fun t k => R100 t (st101.trans k)
  have R114 : ∀ t, Steps p.tables e below (T101.setTop (mkF m 41 #[.val (.long q1), .second, .val (.long q2), .second, .val (.long q3), .second, .val (.long q4), .second, .val (.ref b1), .val (.ref b2), .val (.ref b3), .unset, .unset, .unset, .unset, .unset, .unset, .unset, .unset, .unset, .unset, .unset, .unset, .unset, .unset] [])) t → Steps p.tables e below (s₁.setTop (mkF m 0 #[.val (.long q1), .second, .val (.long q2), .second, .val (.long q3), .second, .val (.long q4), .second, .unset, .unset, .unset, .unset, .unset, .unset, .unset, .unset, .unset, .unset, .unset, .unset, .unset, .unset, .unset, .unset, .unset] [])) t := by
    intro t k
    refine R113 t ?_
    refine XS.astore X101.here hx rfl (hb hby at_39) rfl rfl (l' := #[.val (.long q1), .second, .val (.long q2), .second, .val (.long q3), .second, .val (.long q4), .second, .val (.ref b1), .val (.ref b2), .val (.ref b3), .unset, .unset, .unset, .unset, .unset, .unset, .unset, .unset, .unset, .unset, .unset, .unset, .unset, .unset]) rfl ?_
    exact k
  obtain ⟨T115, h115, X115, e115, x115, A115, D115, -, st115⟩ := newO X101 hx hZ hown (hw _ (List.mem_of_getElem? (i := 0) rfl)) (hw _ (List.mem_of_getElem? (i := 1) rfl)) (hw _ (List.mem_of_getElem? (i := 2) rfl)) rfl (g := (mkF m 41 #[.val (.long q1), .second, .val (.long q2), .second, .val (.long q3), .second, .val (.long q4), .second, .val (.ref b1), .val (.ref b2), .val (.ref b3), .unset, .unset, .unset, .unset, .unset, .unset, .unset, .unset, .unset, .unset, .unset, .unset, .unset, .unset] [])) rfl (hb hby at_41) (by decide) (by decide)
  obtain ⟨b4, g_b4⟩ : ∃ z, z = T101.heap.size := ⟨_, rfl⟩
  rw [← g_b4] at A115 D115 st115
  have ne_b1_b4 : b1 ≠ b4 := Nat.ne_of_lt (Nat.lt_of_lt_of_eq E_102.lt g_b4.symm)
  have ne_b2_b4 : b2 ≠ b4 := Nat.ne_of_lt (Nat.lt_of_lt_of_eq E_107.lt g_b4.symm)
  have ne_b3_b4 : b3 ≠ b4 := Nat.ne_of_lt (Nat.lt_of_lt_of_eq E_112.lt g_b4.symm)
  have n_b4 : n0 ≤ b4 := Nat.le_trans Z101 (Nat.le_of_eq g_b4.symm)
  have Z115 : n0 ≤ h115.size := Nat.le_trans Z101 x115.1
  have E_116 : Exa Z h115 b1 "com/example/underwright/underwright/tape/Tape$Summary" := E_102.ext x115
  have F_117 : Fld Z h115 b1 "com/example/underwright/underwright/tape/Tape$Summary" "eligible" "J" (.long q1) := F_103.ext x115
  have F_118 : Fld Z h115 b1 "com/example/underwright/underwright/tape/Tape$Summary" "ineligible" "J" (.long q2) := F_104.ext x115
  have F_119 : Fld Z h115 b1 "com/example/underwright/underwright/tape/Tape$Summary" "incomplete" "J" (.long q3) := F_105.ext x115
  have F_120 : Fld Z h115 b1 "com/example/underwright/underwright/tape/Tape$Summary" "errors" "J" (.long q4) := F_106.ext x115
  have E_121 : Exa Z h115 b2 "com/example/underwright/underwright/tape/Tape$Summary" := E_107.ext x115
  have F_122 : Fld Z h115 b2 "com/example/underwright/underwright/tape/Tape$Summary" "eligible" "J" (.long q1) := F_108.ext x115
  have F_123 : Fld Z h115 b2 "com/example/underwright/underwright/tape/Tape$Summary" "ineligible" "J" (.long (0 : Int64)) := F_109.ext x115
  have F_124 : Fld Z h115 b2 "com/example/underwright/underwright/tape/Tape$Summary" "incomplete" "J" (.long (0 : Int64)) := F_110.ext x115
  have F_125 : Fld Z h115 b2 "com/example/underwright/underwright/tape/Tape$Summary" "errors" "J" (.long (0 : Int64)) := F_111.ext x115
  have E_126 : Exa Z h115 b3 "com/example/underwright/underwright/tape/Tape$Summary" := E_112.ext x115
  have F_127 : Fld Z h115 b3 "com/example/underwright/underwright/tape/Tape$Summary" "eligible" "J" (.long (0 : Int64)) := Fa101.ext x115
  have F_128 : Fld Z h115 b3 "com/example/underwright/underwright/tape/Tape$Summary" "ineligible" "J" (.long q2) := Fb101.ext x115
  have F_129 : Fld Z h115 b3 "com/example/underwright/underwright/tape/Tape$Summary" "incomplete" "J" (.long (0 : Int64)) := Fc101.ext x115
  have F_130 : Fld Z h115 b3 "com/example/underwright/underwright/tape/Tape$Summary" "errors" "J" (.long (0 : Int64)) := Fd101.ext x115
  have F_131 : Fld Z h115 b4 "com/example/underwright/underwright/tape/Tape$Summary" "eligible" "J" (.long (0 : Int64)) := D115 (Or.inr (hw _ (List.mem_of_getElem? (i := 15) rfl))) (ty := .long) (by decide)
  have F_132 : Fld Z h115 b4 "com/example/underwright/underwright/tape/Tape$Summary" "ineligible" "J" (.long (0 : Int64)) := D115 (Or.inr (hw _ (List.mem_of_getElem? (i := 17) rfl))) (ty := .long) (by decide)
  have F_133 : Fld Z h115 b4 "com/example/underwright/underwright/tape/Tape$Summary" "incomplete" "J" (.long (0 : Int64)) := D115 (Or.inr (hw _ (List.mem_of_getElem? (i := 19) rfl))) (ty := .long) (by decide)
  have F_134 : Fld Z h115 b4 "com/example/underwright/underwright/tape/Tape$Summary" "errors" "J" (.long (0 : Int64)) := D115 (Or.inr (hw _ (List.mem_of_getElem? (i := 21) rfl))) (ty := .long) (by decide)
  have R135 : ∀ t, Steps p.tables e below (T115.setTop (mkF m 44 #[.val (.long q1), .second, .val (.long q2), .second, .val (.long q3), .second, .val (.long q4), .second, .val (.ref b1), .val (.ref b2), .val (.ref b3), .unset, .unset, .unset, .unset, .unset, .unset, .unset, .unset, .unset, .unset, .unset, .unset, .unset, .unset] [(.ref b4)])) t → Steps p.tables e below (s₁.setTop (mkF m 0 #[.val (.long q1), .second, .val (.long q2), .second, .val (.long q3), .second, .val (.long q4), .second, .unset, .unset, .unset, .unset, .unset, .unset, .unset, .unset, .unset, .unset, .unset, .unset, .unset, .unset, .unset, .unset, .unset] [])) t := fun t k => R114 t (st115 _ k)
  have R136 : ∀ t, Steps p.tables e below (T115.setTop (mkF m 50 #[.val (.long q1), .second, .val (.long q2), .second, .val (.long q3), .second, .val (.long q4), .second, .val (.ref b1), .val (.ref b2), .val (.ref b3), .unset, .unset, .unset, .unset, .unset, .unset, .unset, .unset, .unset, .unset, .unset, .unset, .unset, .unset] [(.long (0 : Int64)), (.long q3), (.long (0 : Int64)), (.long (0 : Int64)), (.ref b4), (.ref b4)])) t → Steps p.tables e below (s₁.setTop (mkF m 0 #[.val (.long q1), .second, .val (.long q2), .second, .val (.long q3), .second, .val (.long q4), .second, .unset, .unset, .unset, .unset, .unset, .unset, .unset, .unset, .unset, .unset, .unset, .unset, .unset, .unset, .unset, .unset, .unset] [])) t := by
    intro t k
    refine R135 t ?_
    refine XS.dup X115.here hx rfl (hb hby at_44) rfl rfl ?_
    refine XS.lconst X115.here hx rfl (hb hby at_45) ?_
    refine XS.lconst X115.here hx rfl (hb hby at_46) ?_
    refine XS.lload X115.here hx rfl (hb hby at_47) rfl ?_
    refine XS.lconst X115.here hx rfl (hb hby at_49) ?_
    exact k
  obtain ⟨_, _, ⟨T137, L137, k137, n137⟩, -, X137, ⟨Lc137, hQ137, l137, y137, z137⟩, st137⟩ := X115.specialBack hx (y := (⟨"com/example/underwright/underwright/tape/Tape$Summary", "<init>", "(JJJJ)V"⟩ : MethodName)) rfl hown (mvT hZ (hw _ (List.mem_of_getElem? (i := 3) rfl))) (mvT hZ (hw _ (List.mem_of_getElem? (i := 4) rfl))) (mvT hZ (hw _ (List.mem_of_getElem? (i := 5) rfl))) (by decide) (backOf (W := 1) (rm1 l Z a0 hw [] b4 (0 : Int64) (0 : Int64) q3 (0 : Int64) (.long (0 : Int64)) (.long (0 : Int64)) (.long (0 : Int64)) (.long (0 : Int64)) h115 n0 Z115 A115 F_131 F_132 F_133 F_134 n_b4) hZ (hw _ (List.mem_of_getElem? (i := 5) rfl)) (hw _ (List.mem_of_getElem? (i := 2) rfl)) (by decide) (by decide)) (g := (mkF m 50 #[.val (.long q1), .second, .val (.long q2), .second, .val (.long q3), .second, .val (.long q4), .second, .val (.ref b1), .val (.ref b2), .val (.ref b3), .unset, .unset, .unset, .unset, .unset, .unset, .unset, .unset, .unset, .unset, .unset, .unset, .unset, .unset] [(.long (0 : Int64)), (.long q3), (.long (0 : Int64)), (.long (0 : Int64)), (.ref b4), (.ref b4)])) rfl (by rw [hml]; rfl) (Steps.refl _) (a := b4) (argsL := [(.long (0 : Int64)), (.long (0 : Int64)), (.long q3), (.long (0 : Int64))]) (rest := [(.ref b4)]) (lenOf pd_1 rfl) rfl (by show 2 * 0 + _ ≤ _; exact Nat.le_of_eq rfl) (hb hby at_50) (fun _ _ => ⟨rfl, e115, (by decide : 4 + 0 ≤ _), (by decide : 16 + 0 ≤ _)⟩)
  dsimp only [Pt.U, Pt.locs, Pt.cells, Pt.slots] at X137 l137 y137 z137 st137 hQ137
  subst l137 y137 z137
  obtain ⟨rfl, M137, J137, Fa137, Fb137, Fc137, Fd137⟩ := hQ137
  have Z137 : n0 ≤ T137.heap.size := Nat.le_trans Z115 J137.1
  have E_138 : Exa Z T137.heap b1 "com/example/underwright/underwright/tape/Tape$Summary" := E_116.keep J137
  have F_139 : Fld Z T137.heap b1 "com/example/underwright/underwright/tape/Tape$Summary" "eligible" "J" (.long q1) := F_117.keep J137 (ninS ne_b1_b4 nin0)
  have F_140 : Fld Z T137.heap b1 "com/example/underwright/underwright/tape/Tape$Summary" "ineligible" "J" (.long q2) := F_118.keep J137 (ninS ne_b1_b4 nin0)
  have F_141 : Fld Z T137.heap b1 "com/example/underwright/underwright/tape/Tape$Summary" "incomplete" "J" (.long q3) := F_119.keep J137 (ninS ne_b1_b4 nin0)
  have F_142 : Fld Z T137.heap b1 "com/example/underwright/underwright/tape/Tape$Summary" "errors" "J" (.long q4) := F_120.keep J137 (ninS ne_b1_b4 nin0)
  have E_143 : Exa Z T137.heap b2 "com/example/underwright/underwright/tape/Tape$Summary" := E_121.keep J137
  have F_144 : Fld Z T137.heap b2 "com/example/underwright/underwright/tape/Tape$Summary" "eligible" "J" (.long q1) := F_122.keep J137 (ninS ne_b2_b4 nin0)
  have F_145 : Fld Z T137.heap b2 "com/example/underwright/underwright/tape/Tape$Summary" "ineligible" "J" (.long (0 : Int64)) := F_123.keep J137 (ninS ne_b2_b4 nin0)
  have F_146 : Fld Z T137.heap b2 "com/example/underwright/underwright/tape/Tape$Summary" "incomplete" "J" (.long (0 : Int64)) := F_124.keep J137 (ninS ne_b2_b4 nin0)
  have F_147 : Fld Z T137.heap b2 "com/example/underwright/underwright/tape/Tape$Summary" "errors" "J" (.long (0 : Int64)) := F_125.keep J137 (ninS ne_b2_b4 nin0)
  have E_148 : Exa Z T137.heap b3 "com/example/underwright/underwright/tape/Tape$Summary" := E_126.keep J137
  have F_149 : Fld Z T137.heap b3 "com/example/underwright/underwright/tape/Tape$Summary" "eligible" "J" (.long (0 : Int64)) := F_127.keep J137 (ninS ne_b3_b4 nin0)
  have F_150 : Fld Z T137.heap b3 "com/example/underwright/underwright/tape/Tape$Summary" "ineligible" "J" (.long q2) := F_128.keep J137 (ninS ne_b3_b4 nin0)
  have F_151 : Fld Z T137.heap b3 "com/example/underwright/underwright/tape/Tape$Summary" "incomplete" "J" (.long (0 : Int64)) := F_129.keep J137 (ninS ne_b3_b4 nin0)
  have F_152 : Fld Z T137.heap b3 "com/example/underwright/underwright/tape/Tape$Summary" "errors" "J" (.long (0 : Int64)) := F_130.keep J137 (ninS ne_b3_b4 nin0)
  have E_153 : Exa Z T137.heap b4 "com/example/underwright/underwright/tape/Tape$Summary" := A115.keep J137
  have N137 := Fr.app N101 M137
  have R154 : ∀ t, Steps p.tables e below (T137.setTop (mkF m 53 #[.val (.long q1), .second, .val (.long q2), .second, .val (.long q3), .second, .val (.long q4), .second, .val (.ref b1), .val (.ref b2), .val (.ref b3), .unset, .unset, .unset, .unset, .unset, .unset, .unset, .unset, .unset, .unset, .unset, .unset, .unset, .unset] [(.ref b4)])) t → Steps p.tables e below (s₁.setTop (mkF m 0 #[.val (.long q1), .second, .val (.long q2), .second, .val (.long q3), .second, .val (.long q4), .second, .unset, .unset, .unset, .unset, .unset, .unset, .unset, .unset, .unset, .unset, .unset, .unset, .unset, .unset, .unset, .unset, .unset] [])) t := fun t k => R136 t (st137.trans k)
  have R155 : ∀ t, Steps p.tables e below (T137.setTop (mkF m 55 #[.val (.long q1), .second, .val (.long q2), .second, .val (.long q3), .second, .val (.long q4), .second, .val (.ref b1), .val (.ref b2), .val (.ref b3), .val (.ref b4), .unset, .unset, .unset, .unset, .unset, .unset, .unset, .unset, .unset, .unset, .unset, .unset, .unset] [])) t → Steps p.tables e below (s₁.setTop (mkF m 0 #[.val (.long q1), .second, .val (.long q2), .second, .val (.long q3), .second, .val (.long q4), .second, .unset, .unset, .unset, .unset, .unset, .unset, .unset, .unset, .unset, .unset, .unset, .unset, .unset, .unset, .unset, .unset, .unset] [])) t := by
    intro t k
    refine R154 t ?_
    refine XS.astore X137.here hx rfl (hb hby at_53) rfl rfl (l' := #[.val (.long q1), .second, .val (.long q2), .second, .val (.long q3), .second, .val (.long q4), .second, .val (.ref b1), .val (.ref b2), .val (.ref b3), .val (.ref b4), .unset, .unset, .unset, .unset, .unset, .unset, .unset, .unset, .unset, .unset, .unset, .unset, .unset]) rfl ?_
    exact k
  obtain ⟨T156, h156, X156, e156, x156, A156, D156, -, st156⟩ := newO X137 hx hZ hown (hw _ (List.mem_of_getElem? (i := 0) rfl)) (hw _ (List.mem_of_getElem? (i := 1) rfl)) (hw _ (List.mem_of_getElem? (i := 2) rfl)) rfl (g := (mkF m 55 #[.val (.long q1), .second, .val (.long q2), .second, .val (.long q3), .second, .val (.long q4), .second, .val (.ref b1), .val (.ref b2), .val (.ref b3), .val (.ref b4), .unset, .unset, .unset, .unset, .unset, .unset, .unset, .unset, .unset, .unset, .unset, .unset, .unset] [])) rfl (hb hby at_55) (by decide) (by decide)
  obtain ⟨b5, g_b5⟩ : ∃ z, z = T137.heap.size := ⟨_, rfl⟩
  rw [← g_b5] at A156 D156 st156
  have ne_b1_b5 : b1 ≠ b5 := Nat.ne_of_lt (Nat.lt_of_lt_of_eq E_138.lt g_b5.symm)
  have ne_b2_b5 : b2 ≠ b5 := Nat.ne_of_lt (Nat.lt_of_lt_of_eq E_143.lt g_b5.symm)
  have ne_b3_b5 : b3 ≠ b5 := Nat.ne_of_lt (Nat.lt_of_lt_of_eq E_148.lt g_b5.symm)
  have ne_b4_b5 : b4 ≠ b5 := Nat.ne_of_lt (Nat.lt_of_lt_of_eq E_153.lt g_b5.symm)
  have n_b5 : n0 ≤ b5 := Nat.le_trans Z137 (Nat.le_of_eq g_b5.symm)
  have Z156 : n0 ≤ h156.size := Nat.le_trans Z137 x156.1
  have E_157 : Exa Z h156 b1 "com/example/underwright/underwright/tape/Tape$Summary" := E_138.ext x156
  have F_158 : Fld Z h156 b1 "com/example/underwright/underwright/tape/Tape$Summary" "eligible" "J" (.long q1) := F_139.ext x156
  have F_159 : Fld Z h156 b1 "com/example/underwright/underwright/tape/Tape$Summary" "ineligible" "J" (.long q2) := F_140.ext x156
  have F_160 : Fld Z h156 b1 "com/example/underwright/underwright/tape/Tape$Summary" "incomplete" "J" (.long q3) := F_141.ext x156
  have F_161 : Fld Z h156 b1 "com/example/underwright/underwright/tape/Tape$Summary" "errors" "J" (.long q4) := F_142.ext x156
  have E_162 : Exa Z h156 b2 "com/example/underwright/underwright/tape/Tape$Summary" := E_143.ext x156
  have F_163 : Fld Z h156 b2 "com/example/underwright/underwright/tape/Tape$Summary" "eligible" "J" (.long q1) := F_144.ext x156
  have F_164 : Fld Z h156 b2 "com/example/underwright/underwright/tape/Tape$Summary" "ineligible" "J" (.long (0 : Int64)) := F_145.ext x156
  have F_165 : Fld Z h156 b2 "com/example/underwright/underwright/tape/Tape$Summary" "incomplete" "J" (.long (0 : Int64)) := F_146.ext x156
  have F_166 : Fld Z h156 b2 "com/example/underwright/underwright/tape/Tape$Summary" "errors" "J" (.long (0 : Int64)) := F_147.ext x156
  have E_167 : Exa Z h156 b3 "com/example/underwright/underwright/tape/Tape$Summary" := E_148.ext x156
  have F_168 : Fld Z h156 b3 "com/example/underwright/underwright/tape/Tape$Summary" "eligible" "J" (.long (0 : Int64)) := F_149.ext x156
  have F_169 : Fld Z h156 b3 "com/example/underwright/underwright/tape/Tape$Summary" "ineligible" "J" (.long q2) := F_150.ext x156
  have F_170 : Fld Z h156 b3 "com/example/underwright/underwright/tape/Tape$Summary" "incomplete" "J" (.long (0 : Int64)) := F_151.ext x156
  have F_171 : Fld Z h156 b3 "com/example/underwright/underwright/tape/Tape$Summary" "errors" "J" (.long (0 : Int64)) := F_152.ext x156
  have E_172 : Exa Z h156 b4 "com/example/underwright/underwright/tape/Tape$Summary" := E_153.ext x156
  have F_173 : Fld Z h156 b4 "com/example/underwright/underwright/tape/Tape$Summary" "eligible" "J" (.long (0 : Int64)) := Fa137.ext x156
  have F_174 : Fld Z h156 b4 "com/example/underwright/underwright/tape/Tape$Summary" "ineligible" "J" (.long (0 : Int64)) := Fb137.ext x156
  have F_175 : Fld Z h156 b4 "com/example/underwright/underwright/tape/Tape$Summary" "incomplete" "J" (.long q3) := Fc137.ext x156
  have F_176 : Fld Z h156 b4 "com/example/underwright/underwright/tape/Tape$Summary" "errors" "J" (.long (0 : Int64)) := Fd137.ext x156
  have F_177 : Fld Z h156 b5 "com/example/underwright/underwright/tape/Tape$Summary" "eligible" "J" (.long (0 : Int64)) := D156 (Or.inr (hw _ (List.mem_of_getElem? (i := 15) rfl))) (ty := .long) (by decide)
  have F_178 : Fld Z h156 b5 "com/example/underwright/underwright/tape/Tape$Summary" "ineligible" "J" (.long (0 : Int64)) := D156 (Or.inr (hw _ (List.mem_of_getElem? (i := 17) rfl))) (ty := .long) (by decide)
  have F_179 : Fld Z h156 b5 "com/example/underwright/underwright/tape/Tape$Summary" "incomplete" "J" (.long (0 : Int64)) := D156 (Or.inr (hw _ (List.mem_of_getElem? (i := 19) rfl))) (ty := .long) (by decide)
  have F_180 : Fld Z h156 b5 "com/example/underwright/underwright/tape/Tape$Summary" "errors" "J" (.long (0 : Int64)) := D156 (Or.inr (hw _ (List.mem_of_getElem? (i := 21) rfl))) (ty := .long) (by decide)
  have R181 : ∀ t, Steps p.tables e below (T156.setTop (mkF m 58 #[.val (.long q1), .second, .val (.long q2), .second, .val (.long q3), .second, .val (.long q4), .second, .val (.ref b1), .val (.ref b2), .val (.ref b3), .val (.ref b4), .unset, .unset, .unset, .unset, .unset, .unset, .unset, .unset, .unset, .unset, .unset, .unset, .unset] [(.ref b5)])) t → Steps p.tables e below (s₁.setTop (mkF m 0 #[.val (.long q1), .second, .val (.long q2), .second, .val (.long q3), .second, .val (.long q4), .second, .unset, .unset, .unset, .unset, .unset, .unset, .unset, .unset, .unset, .unset, .unset, .unset, .unset, .unset, .unset, .unset, .unset] [])) t := fun t k => R155 t (st156 _ k)
  have R182 : ∀ t, Steps p.tables e below (T156.setTop (mkF m 64 #[.val (.long q1), .second, .val (.long q2), .second, .val (.long q3), .second, .val (.long q4), .second, .val (.ref b1), .val (.ref b2), .val (.ref b3), .val (.ref b4), .unset, .unset, .unset, .unset, .unset, .unset, .unset, .unset, .unset, .unset, .unset, .unset, .unset] [(.long q4), (.long (0 : Int64)), (.long (0 : Int64)), (.long (0 : Int64)), (.ref b5), (.ref b5)])) t → Steps p.tables e below (s₁.setTop (mkF m 0 #[.val (.long q1), .second, .val (.long q2), .second, .val (.long q3), .second, .val (.long q4), .second, .unset, .unset, .unset, .unset, .unset, .unset, .unset, .unset, .unset, .unset, .unset, .unset, .unset, .unset, .unset, .unset, .unset] [])) t := by
    intro t k
    refine R181 t ?_
    refine XS.dup X156.here hx rfl (hb hby at_58) rfl rfl ?_
    refine XS.lconst X156.here hx rfl (hb hby at_59) ?_
    refine XS.lconst X156.here hx rfl (hb hby at_60) ?_
    refine XS.lconst X156.here hx rfl (hb hby at_61) ?_
    refine XS.lload X156.here hx rfl (hb hby at_62) rfl ?_
    exact k
  obtain ⟨_, _, ⟨T183, L183, k183, n183⟩, -, X183, ⟨Lc183, hQ183, l183, y183, z183⟩, st183⟩ := X156.specialBack hx (y := (⟨"com/example/underwright/underwright/tape/Tape$Summary", "<init>", "(JJJJ)V"⟩ : MethodName)) rfl hown (mvT hZ (hw _ (List.mem_of_getElem? (i := 3) rfl))) (mvT hZ (hw _ (List.mem_of_getElem? (i := 4) rfl))) (mvT hZ (hw _ (List.mem_of_getElem? (i := 5) rfl))) (by decide) (backOf (W := 1) (rm1 l Z a0 hw [] b5 (0 : Int64) (0 : Int64) (0 : Int64) q4 (.long (0 : Int64)) (.long (0 : Int64)) (.long (0 : Int64)) (.long (0 : Int64)) h156 n0 Z156 A156 F_177 F_178 F_179 F_180 n_b5) hZ (hw _ (List.mem_of_getElem? (i := 5) rfl)) (hw _ (List.mem_of_getElem? (i := 2) rfl)) (by decide) (by decide)) (g := (mkF m 64 #[.val (.long q1), .second, .val (.long q2), .second, .val (.long q3), .second, .val (.long q4), .second, .val (.ref b1), .val (.ref b2), .val (.ref b3), .val (.ref b4), .unset, .unset, .unset, .unset, .unset, .unset, .unset, .unset, .unset, .unset, .unset, .unset, .unset] [(.long q4), (.long (0 : Int64)), (.long (0 : Int64)), (.long (0 : Int64)), (.ref b5), (.ref b5)])) rfl (by rw [hml]; rfl) (Steps.refl _) (a := b5) (argsL := [(.long (0 : Int64)), (.long (0 : Int64)), (.long (0 : Int64)), (.long q4)]) (rest := [(.ref b5)]) (lenOf pd_1 rfl) rfl (by show 2 * 0 + _ ≤ _; exact Nat.le_of_eq rfl) (hb hby at_64) (fun _ _ => ⟨rfl, e156, (by decide : 5 + 0 ≤ _), (by decide : 20 + 0 ≤ _)⟩)
  dsimp only [Pt.U, Pt.locs, Pt.cells, Pt.slots] at X183 l183 y183 z183 st183 hQ183
  subst l183 y183 z183
  obtain ⟨rfl, M183, J183, Fa183, Fb183, Fc183, Fd183⟩ := hQ183
  have Z183 : n0 ≤ T183.heap.size := Nat.le_trans Z156 J183.1
  have E_184 : Exa Z T183.heap b1 "com/example/underwright/underwright/tape/Tape$Summary" := E_157.keep J183
  have F_185 : Fld Z T183.heap b1 "com/example/underwright/underwright/tape/Tape$Summary" "eligible" "J" (.long q1) := F_158.keep J183 (ninS ne_b1_b5 nin0)
  have F_186 : Fld Z T183.heap b1 "com/example/underwright/underwright/tape/Tape$Summary" "ineligible" "J" (.long q2) := F_159.keep J183 (ninS ne_b1_b5 nin0)
  have F_187 : Fld Z T183.heap b1 "com/example/underwright/underwright/tape/Tape$Summary" "incomplete" "J" (.long q3) := F_160.keep J183 (ninS ne_b1_b5 nin0)
  have F_188 : Fld Z T183.heap b1 "com/example/underwright/underwright/tape/Tape$Summary" "errors" "J" (.long q4) := F_161.keep J183 (ninS ne_b1_b5 nin0)
  have E_189 : Exa Z T183.heap b2 "com/example/underwright/underwright/tape/Tape$Summary" := E_162.keep J183
  have F_190 : Fld Z T183.heap b2 "com/example/underwright/underwright/tape/Tape$Summary" "eligible" "J" (.long q1) := F_163.keep J183 (ninS ne_b2_b5 nin0)
  have F_191 : Fld Z T183.heap b2 "com/example/underwright/underwright/tape/Tape$Summary" "ineligible" "J" (.long (0 : Int64)) := F_164.keep J183 (ninS ne_b2_b5 nin0)
  have F_192 : Fld Z T183.heap b2 "com/example/underwright/underwright/tape/Tape$Summary" "incomplete" "J" (.long (0 : Int64)) := F_165.keep J183 (ninS ne_b2_b5 nin0)
  have F_193 : Fld Z T183.heap b2 "com/example/underwright/underwright/tape/Tape$Summary" "errors" "J" (.long (0 : Int64)) := F_166.keep J183 (ninS ne_b2_b5 nin0)
  have E_194 : Exa Z T183.heap b3 "com/example/underwright/underwright/tape/Tape$Summary" := E_167.keep J183
  have F_195 : Fld Z T183.heap b3 "com/example/underwright/underwright/tape/Tape$Summary" "eligible" "J" (.long (0 : Int64)) := F_168.keep J183 (ninS ne_b3_b5 nin0)
  have F_196 : Fld Z T183.heap b3 "com/example/underwright/underwright/tape/Tape$Summary" "ineligible" "J" (.long q2) := F_169.keep J183 (ninS ne_b3_b5 nin0)
  have F_197 : Fld Z T183.heap b3 "com/example/underwright/underwright/tape/Tape$Summary" "incomplete" "J" (.long (0 : Int64)) := F_170.keep J183 (ninS ne_b3_b5 nin0)
  have F_198 : Fld Z T183.heap b3 "com/example/underwright/underwright/tape/Tape$Summary" "errors" "J" (.long (0 : Int64)) := F_171.keep J183 (ninS ne_b3_b5 nin0)
  have E_199 : Exa Z T183.heap b4 "com/example/underwright/underwright/tape/Tape$Summary" := E_172.keep J183
  have F_200 : Fld Z T183.heap b4 "com/example/underwright/underwright/tape/Tape$Summary" "eligible" "J" (.long (0 : Int64)) := F_173.keep J183 (ninS ne_b4_b5 nin0)
  have F_201 : Fld Z T183.heap b4 "com/example/underwright/underwright/tape/Tape$Summary" "ineligible" "J" (.long (0 : Int64)) := F_174.keep J183 (ninS ne_b4_b5 nin0)
  have F_202 : Fld Z T183.heap b4 "com/example/underwright/underwright/tape/Tape$Summary" "incomplete" "J" (.long q3) := F_175.keep J183 (ninS ne_b4_b5 nin0)
  have F_203 : Fld Z T183.heap b4 "com/example/underwright/underwright/tape/Tape$Summary" "errors" "J" (.long (0 : Int64)) := F_176.keep J183 (ninS ne_b4_b5 nin0)
  have E_204 : Exa Z T183.heap b5 "com/example/underwright/underwright/tape/Tape$Summary" := A156.keep J183
  have N183 := Fr.app N137 M183
  have R205 : ∀ t, Steps p.tables e below (T183.setTop (mkF m 67 #[.val (.long q1), .second, .val (.long q2), .second, .val (.long q3), .second, .val (.long q4), .second, .val (.ref b1), .val (.ref b2), .val (.ref b3), .val (.ref b4), .unset, .unset, .unset, .unset, .unset, .unset, .unset, .unset, .unset, .unset, .unset, .unset, .unset] [(.ref b5)])) t → Steps p.tables e below (s₁.setTop (mkF m 0 #[.val (.long q1), .second, .val (.long q2), .second, .val (.long q3), .second, .val (.long q4), .second, .unset, .unset, .unset, .unset, .unset, .unset, .unset, .unset, .unset, .unset, .unset, .unset, .unset, .unset, .unset, .unset, .unset] [])) t := fun t k => R182 t (st183.trans k)
  have R206 : ∀ t, Steps p.tables e below (T183.setTop (mkF m 71 #[.val (.long q1), .second, .val (.long q2), .second, .val (.long q3), .second, .val (.long q4), .second, .val (.ref b1), .val (.ref b2), .val (.ref b3), .val (.ref b4), .val (.ref b5), .unset, .unset, .unset, .unset, .unset, .unset, .unset, .unset, .unset, .unset, .unset, .unset] [(.ref b2)])) t → Steps p.tables e below (s₁.setTop (mkF m 0 #[.val (.long q1), .second, .val (.long q2), .second, .val (.long q3), .second, .val (.long q4), .second, .unset, .unset, .unset, .unset, .unset, .unset, .unset, .unset, .unset, .unset, .unset, .unset, .unset, .unset, .unset, .unset, .unset] [])) t := by
    intro t k
    refine R205 t ?_
    refine XS.astore X183.here hx rfl (hb hby at_67) rfl rfl (l' := #[.val (.long q1), .second, .val (.long q2), .second, .val (.long q3), .second, .val (.long q4), .second, .val (.ref b1), .val (.ref b2), .val (.ref b3), .val (.ref b4), .val (.ref b5), .unset, .unset, .unset, .unset, .unset, .unset, .unset, .unset, .unset, .unset, .unset, .unset]) rfl ?_
    refine XS.aload X183.here hx rfl (hb hby at_69) rfl rfl ?_
    exact k
  obtain ⟨_, _, q208a, q208b, q208c⟩ := isOf hZ rfl E_189
  obtain ⟨_, _, ⟨T207, L207, k207, n207⟩, -, X207, ⟨Lc207, hQ207, l207, y207, z207⟩, st207⟩ := X183.virtualBack hx (y := (⟨"com/example/underwright/underwright/tape/Tape$Summary", "loans", "()J"⟩ : MethodName)) (z := (⟨"com/example/underwright/underwright/tape/Tape$Summary", "loans", "()J"⟩ : MethodName)) hown (mvT hZ (hw _ (List.mem_of_getElem? (i := 22) rfl))) (mvT hZ (hw _ (List.mem_of_getElem? (i := 23) rfl))) (notFace_of_selects (args := #[]) (mvT hZ (hw _ (List.mem_of_getElem? (i := 25) rfl)))) (mvT hZ (hw _ (List.mem_of_getElem? (i := 25) rfl))) (mvT hZ (hw _ (List.mem_of_getElem? (i := 24) rfl))) (by decide) (backOf (W := 0) (rm4 l Z a0 hw [] b2 q1 (0 : Int64) (0 : Int64) (0 : Int64) T183.heap n0 Z183 F_190 F_191 F_192 F_193) hZ (hw _ (List.mem_of_getElem? (i := 26) rfl)) (hw _ (List.mem_of_getElem? (i := 2) rfl)) (by decide) (by decide)) q208a q208c (g := (mkF m 71 #[.val (.long q1), .second, .val (.long q2), .second, .val (.long q3), .second, .val (.long q4), .second, .val (.ref b1), .val (.ref b2), .val (.ref b3), .val (.ref b4), .val (.ref b5), .unset, .unset, .unset, .unset, .unset, .unset, .unset, .unset, .unset, .unset, .unset, .unset] [(.ref b2)])) rfl (by rw [hml]; rfl) (Steps.refl _) (argsL := []) (rest := []) (lenOf pd_2 rfl) rfl (by show 2 * 0 + _ ≤ _; exact Nat.le_of_eq rfl) (hb hby at_71) (fun _ _ => ⟨rfl, rfl, (by decide : 5 + 0 ≤ _), (by decide : 20 + 0 ≤ _)⟩)
  dsimp only [Pt.U, Pt.locs, Pt.cells, Pt.slots] at X207 l207 y207 z207 st207 hQ207
  subst l207 y207 z207
  obtain ⟨rfl, M207, e207⟩ := hQ207
  have N207 := Fr.app N183 M207
  have R209 : ∀ t, Steps p.tables e below (T207.setTop (mkF m 74 #[.val (.long q1), .second, .val (.long q2), .second, .val (.long q3), .second, .val (.long q4), .second, .val (.ref b1), .val (.ref b2), .val (.ref b3), .val (.ref b4), .val (.ref b5), .unset, .unset, .unset, .unset, .unset, .unset, .unset, .unset, .unset, .unset, .unset, .unset] [(.long (((q1 + (0 : Int64)) + (0 : Int64)) + (0 : Int64)))])) t → Steps p.tables e below (s₁.setTop (mkF m 0 #[.val (.long q1), .second, .val (.long q2), .second, .val (.long q3), .second, .val (.long q4), .second, .unset, .unset, .unset, .unset, .unset, .unset, .unset, .unset, .unset, .unset, .unset, .unset, .unset, .unset, .unset, .unset, .unset] [])) t := fun t k => R206 t (st207.trans k)
  have R210 : ∀ t, Steps p.tables e below (T207.setTop (mkF m 78 #[.val (.long q1), .second, .val (.long q2), .second, .val (.long q3), .second, .val (.long q4), .second, .val (.ref b1), .val (.ref b2), .val (.ref b3), .val (.ref b4), .val (.ref b5), .val (.long (((q1 + (0 : Int64)) + (0 : Int64)) + (0 : Int64))), .second, .unset, .unset, .unset, .unset, .unset, .unset, .unset, .unset, .unset, .unset] [(.ref b3)])) t → Steps p.tables e below (s₁.setTop (mkF m 0 #[.val (.long q1), .second, .val (.long q2), .second, .val (.long q3), .second, .val (.long q4), .second, .unset, .unset, .unset, .unset, .unset, .unset, .unset, .unset, .unset, .unset, .unset, .unset, .unset, .unset, .unset, .unset, .unset] [])) t := by
    intro t k
    refine R209 t ?_
    refine XS.lstore X207.here hx rfl (hb hby at_74) rfl (l' := #[.val (.long q1), .second, .val (.long q2), .second, .val (.long q3), .second, .val (.long q4), .second, .val (.ref b1), .val (.ref b2), .val (.ref b3), .val (.ref b4), .val (.ref b5), .val (.long (((q1 + (0 : Int64)) + (0 : Int64)) + (0 : Int64))), .second, .unset, .unset, .unset, .unset, .unset, .unset, .unset, .unset, .unset, .unset]) rfl ?_
    refine XS.aload X207.here hx rfl (hb hby at_76) rfl rfl ?_
    exact k
  obtain ⟨_, _, q212a, q212b, q212c⟩ := isOf hZ e207 E_194
  obtain ⟨_, _, ⟨T211, L211, k211, n211⟩, -, X211, ⟨Lc211, hQ211, l211, y211, z211⟩, st211⟩ := X207.virtualBack hx (y := (⟨"com/example/underwright/underwright/tape/Tape$Summary", "loans", "()J"⟩ : MethodName)) (z := (⟨"com/example/underwright/underwright/tape/Tape$Summary", "loans", "()J"⟩ : MethodName)) hown (mvT hZ (hw _ (List.mem_of_getElem? (i := 22) rfl))) (mvT hZ (hw _ (List.mem_of_getElem? (i := 23) rfl))) (notFace_of_selects (args := #[]) (mvT hZ (hw _ (List.mem_of_getElem? (i := 25) rfl)))) (mvT hZ (hw _ (List.mem_of_getElem? (i := 25) rfl))) (mvT hZ (hw _ (List.mem_of_getElem? (i := 24) rfl))) (by decide) (backOf (W := 0) (rm4 l Z a0 hw [] b3 (0 : Int64) q2 (0 : Int64) (0 : Int64) T183.heap n0 Z183 F_195 F_196 F_197 F_198) hZ (hw _ (List.mem_of_getElem? (i := 26) rfl)) (hw _ (List.mem_of_getElem? (i := 2) rfl)) (by decide) (by decide)) q212a q212c (g := (mkF m 78 #[.val (.long q1), .second, .val (.long q2), .second, .val (.long q3), .second, .val (.long q4), .second, .val (.ref b1), .val (.ref b2), .val (.ref b3), .val (.ref b4), .val (.ref b5), .val (.long (((q1 + (0 : Int64)) + (0 : Int64)) + (0 : Int64))), .second, .unset, .unset, .unset, .unset, .unset, .unset, .unset, .unset, .unset, .unset] [(.ref b3)])) rfl (by rw [hml]; rfl) (Steps.refl _) (argsL := []) (rest := []) (lenOf pd_2 rfl) rfl (by show 2 * 0 + _ ≤ _; exact Nat.le_of_eq rfl) (hb hby at_78) (fun _ _ => ⟨rfl, e207, (by decide : 5 + 0 ≤ _), (by decide : 20 + 0 ≤ _)⟩)
  dsimp only [Pt.U, Pt.locs, Pt.cells, Pt.slots] at X211 l211 y211 z211 st211 hQ211
  subst l211 y211 z211
  obtain ⟨rfl, M211, e211⟩ := hQ211
  have N211 := Fr.app N207 M211
  have R213 : ∀ t, Steps p.tables e below (T211.setTop (mkF m 81 #[.val (.long q1), .second, .val (.long q2), .second, .val (.long q3), .second, .val (.long q4), .second, .val (.ref b1), .val (.ref b2), .val (.ref b3), .val (.ref b4), .val (.ref b5), .val (.long (((q1 + (0 : Int64)) + (0 : Int64)) + (0 : Int64))), .second, .unset, .unset, .unset, .unset, .unset, .unset, .unset, .unset, .unset, .unset] [(.long ((((0 : Int64) + q2) + (0 : Int64)) + (0 : Int64)))])) t → Steps p.tables e below (s₁.setTop (mkF m 0 #[.val (.long q1), .second, .val (.long q2), .second, .val (.long q3), .second, .val (.long q4), .second, .unset, .unset, .unset, .unset, .unset, .unset, .unset, .unset, .unset, .unset, .unset, .unset, .unset, .unset, .unset, .unset, .unset] [])) t := fun t k => R210 t (st211.trans k)
  have R214 : ∀ t, Steps p.tables e below (T211.setTop (mkF m 85 #[.val (.long q1), .second, .val (.long q2), .second, .val (.long q3), .second, .val (.long q4), .second, .val (.ref b1), .val (.ref b2), .val (.ref b3), .val (.ref b4), .val (.ref b5), .val (.long (((q1 + (0 : Int64)) + (0 : Int64)) + (0 : Int64))), .second, .val (.long ((((0 : Int64) + q2) + (0 : Int64)) + (0 : Int64))), .second, .unset, .unset, .unset, .unset, .unset, .unset, .unset, .unset] [(.ref b4)])) t → Steps p.tables e below (s₁.setTop (mkF m 0 #[.val (.long q1), .second, .val (.long q2), .second, .val (.long q3), .second, .val (.long q4), .second, .unset, .unset, .unset, .unset, .unset, .unset, .unset, .unset, .unset, .unset, .unset, .unset, .unset, .unset, .unset, .unset, .unset] [])) t := by
    intro t k
    refine R213 t ?_
    refine XS.lstore X211.here hx rfl (hb hby at_81) rfl (l' := #[.val (.long q1), .second, .val (.long q2), .second, .val (.long q3), .second, .val (.long q4), .second, .val (.ref b1), .val (.ref b2), .val (.ref b3), .val (.ref b4), .val (.ref b5), .val (.long (((q1 + (0 : Int64)) + (0 : Int64)) + (0 : Int64))), .second, .val (.long ((((0 : Int64) + q2) + (0 : Int64)) + (0 : Int64))), .second, .unset, .unset, .unset, .unset, .unset, .unset, .unset, .unset]) rfl ?_
    refine XS.aload X211.here hx rfl (hb hby at_83) rfl rfl ?_
    exact k
  obtain ⟨_, _, q216a, q216b, q216c⟩ := isOf hZ e211 E_199
  obtain ⟨_, _, ⟨T215, L215, k215, n215⟩, -, X215, ⟨Lc215, hQ215, l215, y215, z215⟩, st215⟩ := X211.virtualBack hx (y := (⟨"com/example/underwright/underwright/tape/Tape$Summary", "loans", "()J"⟩ : MethodName)) (z := (⟨"com/example/underwright/underwright/tape/Tape$Summary", "loans", "()J"⟩ : MethodName)) hown (mvT hZ (hw _ (List.mem_of_getElem? (i := 22) rfl))) (mvT hZ (hw _ (List.mem_of_getElem? (i := 23) rfl))) (notFace_of_selects (args := #[]) (mvT hZ (hw _ (List.mem_of_getElem? (i := 25) rfl)))) (mvT hZ (hw _ (List.mem_of_getElem? (i := 25) rfl))) (mvT hZ (hw _ (List.mem_of_getElem? (i := 24) rfl))) (by decide) (backOf (W := 0) (rm4 l Z a0 hw [] b4 (0 : Int64) (0 : Int64) q3 (0 : Int64) T183.heap n0 Z183 F_200 F_201 F_202 F_203) hZ (hw _ (List.mem_of_getElem? (i := 26) rfl)) (hw _ (List.mem_of_getElem? (i := 2) rfl)) (by decide) (by decide)) q216a q216c (g := (mkF m 85 #[.val (.long q1), .second, .val (.long q2), .second, .val (.long q3), .second, .val (.long q4), .second, .val (.ref b1), .val (.ref b2), .val (.ref b3), .val (.ref b4), .val (.ref b5), .val (.long (((q1 + (0 : Int64)) + (0 : Int64)) + (0 : Int64))), .second, .val (.long ((((0 : Int64) + q2) + (0 : Int64)) + (0 : Int64))), .second, .unset, .unset, .unset, .unset, .unset, .unset, .unset, .unset] [(.ref b4)])) rfl (by rw [hml]; rfl) (Steps.refl _) (argsL := []) (rest := []) (lenOf pd_2 rfl) rfl (by show 2 * 0 + _ ≤ _; exact Nat.le_of_eq rfl) (hb hby at_85) (fun _ _ => ⟨rfl, e211, (by decide : 5 + 0 ≤ _), (by decide : 20 + 0 ≤ _)⟩)
  dsimp only [Pt.U, Pt.locs, Pt.cells, Pt.slots] at X215 l215 y215 z215 st215 hQ215
  subst l215 y215 z215
  obtain ⟨rfl, M215, e215⟩ := hQ215
  have N215 := Fr.app N211 M215
  have R217 : ∀ t, Steps p.tables e below (T215.setTop (mkF m 88 #[.val (.long q1), .second, .val (.long q2), .second, .val (.long q3), .second, .val (.long q4), .second, .val (.ref b1), .val (.ref b2), .val (.ref b3), .val (.ref b4), .val (.ref b5), .val (.long (((q1 + (0 : Int64)) + (0 : Int64)) + (0 : Int64))), .second, .val (.long ((((0 : Int64) + q2) + (0 : Int64)) + (0 : Int64))), .second, .unset, .unset, .unset, .unset, .unset, .unset, .unset, .unset] [(.long ((((0 : Int64) + (0 : Int64)) + q3) + (0 : Int64)))])) t → Steps p.tables e below (s₁.setTop (mkF m 0 #[.val (.long q1), .second, .val (.long q2), .second, .val (.long q3), .second, .val (.long q4), .second, .unset, .unset, .unset, .unset, .unset, .unset, .unset, .unset, .unset, .unset, .unset, .unset, .unset, .unset, .unset, .unset, .unset] [])) t := fun t k => R214 t (st215.trans k)
  have R218 : ∀ t, Steps p.tables e below (T215.setTop (mkF m 92 #[.val (.long q1), .second, .val (.long q2), .second, .val (.long q3), .second, .val (.long q4), .second, .val (.ref b1), .val (.ref b2), .val (.ref b3), .val (.ref b4), .val (.ref b5), .val (.long (((q1 + (0 : Int64)) + (0 : Int64)) + (0 : Int64))), .second, .val (.long ((((0 : Int64) + q2) + (0 : Int64)) + (0 : Int64))), .second, .val (.long ((((0 : Int64) + (0 : Int64)) + q3) + (0 : Int64))), .second, .unset, .unset, .unset, .unset, .unset, .unset] [(.ref b5)])) t → Steps p.tables e below (s₁.setTop (mkF m 0 #[.val (.long q1), .second, .val (.long q2), .second, .val (.long q3), .second, .val (.long q4), .second, .unset, .unset, .unset, .unset, .unset, .unset, .unset, .unset, .unset, .unset, .unset, .unset, .unset, .unset, .unset, .unset, .unset] [])) t := by
    intro t k
    refine R217 t ?_
    refine XS.lstore X215.here hx rfl (hb hby at_88) rfl (l' := #[.val (.long q1), .second, .val (.long q2), .second, .val (.long q3), .second, .val (.long q4), .second, .val (.ref b1), .val (.ref b2), .val (.ref b3), .val (.ref b4), .val (.ref b5), .val (.long (((q1 + (0 : Int64)) + (0 : Int64)) + (0 : Int64))), .second, .val (.long ((((0 : Int64) + q2) + (0 : Int64)) + (0 : Int64))), .second, .val (.long ((((0 : Int64) + (0 : Int64)) + q3) + (0 : Int64))), .second, .unset, .unset, .unset, .unset, .unset, .unset]) rfl ?_
    refine XS.aload X215.here hx rfl (hb hby at_90) rfl rfl ?_
    exact k
  obtain ⟨_, _, q220a, q220b, q220c⟩ := isOf hZ e215 E_204
  obtain ⟨_, _, ⟨T219, L219, k219, n219⟩, -, X219, ⟨Lc219, hQ219, l219, y219, z219⟩, st219⟩ := X215.virtualBack hx (y := (⟨"com/example/underwright/underwright/tape/Tape$Summary", "loans", "()J"⟩ : MethodName)) (z := (⟨"com/example/underwright/underwright/tape/Tape$Summary", "loans", "()J"⟩ : MethodName)) hown (mvT hZ (hw _ (List.mem_of_getElem? (i := 22) rfl))) (mvT hZ (hw _ (List.mem_of_getElem? (i := 23) rfl))) (notFace_of_selects (args := #[]) (mvT hZ (hw _ (List.mem_of_getElem? (i := 25) rfl)))) (mvT hZ (hw _ (List.mem_of_getElem? (i := 25) rfl))) (mvT hZ (hw _ (List.mem_of_getElem? (i := 24) rfl))) (by decide) (backOf (W := 0) (rm4 l Z a0 hw [] b5 (0 : Int64) (0 : Int64) (0 : Int64) q4 T183.heap n0 Z183 Fa183 Fb183 Fc183 Fd183) hZ (hw _ (List.mem_of_getElem? (i := 26) rfl)) (hw _ (List.mem_of_getElem? (i := 2) rfl)) (by decide) (by decide)) q220a q220c (g := (mkF m 92 #[.val (.long q1), .second, .val (.long q2), .second, .val (.long q3), .second, .val (.long q4), .second, .val (.ref b1), .val (.ref b2), .val (.ref b3), .val (.ref b4), .val (.ref b5), .val (.long (((q1 + (0 : Int64)) + (0 : Int64)) + (0 : Int64))), .second, .val (.long ((((0 : Int64) + q2) + (0 : Int64)) + (0 : Int64))), .second, .val (.long ((((0 : Int64) + (0 : Int64)) + q3) + (0 : Int64))), .second, .unset, .unset, .unset, .unset, .unset, .unset] [(.ref b5)])) rfl (by rw [hml]; rfl) (Steps.refl _) (argsL := []) (rest := []) (lenOf pd_2 rfl) rfl (by show 2 * 0 + _ ≤ _; exact Nat.le_of_eq rfl) (hb hby at_92) (fun _ _ => ⟨rfl, e215, (by decide : 5 + 0 ≤ _), (by decide : 20 + 0 ≤ _)⟩)
  dsimp only [Pt.U, Pt.locs, Pt.cells, Pt.slots] at X219 l219 y219 z219 st219 hQ219
  subst l219 y219 z219
  obtain ⟨rfl, M219, e219⟩ := hQ219
  have N219 := Fr.app N215 M219
  have R221 : ∀ t, Steps p.tables e below (T219.setTop (mkF m 95 #[.val (.long q1), .second, .val (.long q2), .second, .val (.long q3), .second, .val (.long q4), .second, .val (.ref b1), .val (.ref b2), .val (.ref b3), .val (.ref b4), .val (.ref b5), .val (.long (((q1 + (0 : Int64)) + (0 : Int64)) + (0 : Int64))), .second, .val (.long ((((0 : Int64) + q2) + (0 : Int64)) + (0 : Int64))), .second, .val (.long ((((0 : Int64) + (0 : Int64)) + q3) + (0 : Int64))), .second, .unset, .unset, .unset, .unset, .unset, .unset] [(.long ((((0 : Int64) + (0 : Int64)) + (0 : Int64)) + q4))])) t → Steps p.tables e below (s₁.setTop (mkF m 0 #[.val (.long q1), .second, .val (.long q2), .second, .val (.long q3), .second, .val (.long q4), .second, .unset, .unset, .unset, .unset, .unset, .unset, .unset, .unset, .unset, .unset, .unset, .unset, .unset, .unset, .unset, .unset, .unset] [])) t := fun t k => R218 t (st219.trans k)
  have R222 : ∀ t, Steps p.tables e below (T219.setTop (mkF m 99 #[.val (.long q1), .second, .val (.long q2), .second, .val (.long q3), .second, .val (.long q4), .second, .val (.ref b1), .val (.ref b2), .val (.ref b3), .val (.ref b4), .val (.ref b5), .val (.long (((q1 + (0 : Int64)) + (0 : Int64)) + (0 : Int64))), .second, .val (.long ((((0 : Int64) + q2) + (0 : Int64)) + (0 : Int64))), .second, .val (.long ((((0 : Int64) + (0 : Int64)) + q3) + (0 : Int64))), .second, .val (.long ((((0 : Int64) + (0 : Int64)) + (0 : Int64)) + q4)), .second, .unset, .unset, .unset, .unset] [(.ref b1)])) t → Steps p.tables e below (s₁.setTop (mkF m 0 #[.val (.long q1), .second, .val (.long q2), .second, .val (.long q3), .second, .val (.long q4), .second, .unset, .unset, .unset, .unset, .unset, .unset, .unset, .unset, .unset, .unset, .unset, .unset, .unset, .unset, .unset, .unset, .unset] [])) t := by
    intro t k
    refine R221 t ?_
    refine XS.lstore X219.here hx rfl (hb hby at_95) rfl (l' := #[.val (.long q1), .second, .val (.long q2), .second, .val (.long q3), .second, .val (.long q4), .second, .val (.ref b1), .val (.ref b2), .val (.ref b3), .val (.ref b4), .val (.ref b5), .val (.long (((q1 + (0 : Int64)) + (0 : Int64)) + (0 : Int64))), .second, .val (.long ((((0 : Int64) + q2) + (0 : Int64)) + (0 : Int64))), .second, .val (.long ((((0 : Int64) + (0 : Int64)) + q3) + (0 : Int64))), .second, .val (.long ((((0 : Int64) + (0 : Int64)) + (0 : Int64)) + q4)), .second, .unset, .unset, .unset, .unset]) rfl ?_
    refine XS.aload X219.here hx rfl (hb hby at_97) rfl rfl ?_
    exact k
  obtain ⟨_, _, q224a, q224b, q224c⟩ := isOf hZ e219 E_184
  obtain ⟨_, _, ⟨T223, L223, k223, n223⟩, -, X223, ⟨Lc223, hQ223, l223, y223, z223⟩, st223⟩ := X219.virtualBack hx (y := (⟨"com/example/underwright/underwright/tape/Tape$Summary", "loans", "()J"⟩ : MethodName)) (z := (⟨"com/example/underwright/underwright/tape/Tape$Summary", "loans", "()J"⟩ : MethodName)) hown (mvT hZ (hw _ (List.mem_of_getElem? (i := 22) rfl))) (mvT hZ (hw _ (List.mem_of_getElem? (i := 23) rfl))) (notFace_of_selects (args := #[]) (mvT hZ (hw _ (List.mem_of_getElem? (i := 25) rfl)))) (mvT hZ (hw _ (List.mem_of_getElem? (i := 25) rfl))) (mvT hZ (hw _ (List.mem_of_getElem? (i := 24) rfl))) (by decide) (backOf (W := 0) (rm4 l Z a0 hw [] b1 q1 q2 q3 q4 T183.heap n0 Z183 F_185 F_186 F_187 F_188) hZ (hw _ (List.mem_of_getElem? (i := 26) rfl)) (hw _ (List.mem_of_getElem? (i := 2) rfl)) (by decide) (by decide)) q224a q224c (g := (mkF m 99 #[.val (.long q1), .second, .val (.long q2), .second, .val (.long q3), .second, .val (.long q4), .second, .val (.ref b1), .val (.ref b2), .val (.ref b3), .val (.ref b4), .val (.ref b5), .val (.long (((q1 + (0 : Int64)) + (0 : Int64)) + (0 : Int64))), .second, .val (.long ((((0 : Int64) + q2) + (0 : Int64)) + (0 : Int64))), .second, .val (.long ((((0 : Int64) + (0 : Int64)) + q3) + (0 : Int64))), .second, .val (.long ((((0 : Int64) + (0 : Int64)) + (0 : Int64)) + q4)), .second, .unset, .unset, .unset, .unset] [(.ref b1)])) rfl (by rw [hml]; rfl) (Steps.refl _) (argsL := []) (rest := []) (lenOf pd_2 rfl) rfl (by show 2 * 0 + _ ≤ _; exact Nat.le_of_eq rfl) (hb hby at_99) (fun _ _ => ⟨rfl, e219, (by decide : 5 + 0 ≤ _), (by decide : 20 + 0 ≤ _)⟩)
  dsimp only [Pt.U, Pt.locs, Pt.cells, Pt.slots] at X223 l223 y223 z223 st223 hQ223
  subst l223 y223 z223
  obtain ⟨rfl, M223, e223⟩ := hQ223
  have N223 := Fr.app N219 M223
  have R225 : ∀ t, Steps p.tables e below (T223.setTop (mkF m 102 #[.val (.long q1), .second, .val (.long q2), .second, .val (.long q3), .second, .val (.long q4), .second, .val (.ref b1), .val (.ref b2), .val (.ref b3), .val (.ref b4), .val (.ref b5), .val (.long (((q1 + (0 : Int64)) + (0 : Int64)) + (0 : Int64))), .second, .val (.long ((((0 : Int64) + q2) + (0 : Int64)) + (0 : Int64))), .second, .val (.long ((((0 : Int64) + (0 : Int64)) + q3) + (0 : Int64))), .second, .val (.long ((((0 : Int64) + (0 : Int64)) + (0 : Int64)) + q4)), .second, .unset, .unset, .unset, .unset] [(.long (((q1 + q2) + q3) + q4))])) t → Steps p.tables e below (s₁.setTop (mkF m 0 #[.val (.long q1), .second, .val (.long q2), .second, .val (.long q3), .second, .val (.long q4), .second, .unset, .unset, .unset, .unset, .unset, .unset, .unset, .unset, .unset, .unset, .unset, .unset, .unset, .unset, .unset, .unset, .unset] [])) t := fun t k => R222 t (st223.trans k)
  have R226 : ∀ t, Steps p.tables e below (T223.setTop (mkF m 108 #[.val (.long q1), .second, .val (.long q2), .second, .val (.long q3), .second, .val (.long q4), .second, .val (.ref b1), .val (.ref b2), .val (.ref b3), .val (.ref b4), .val (.ref b5), .val (.long (((q1 + (0 : Int64)) + (0 : Int64)) + (0 : Int64))), .second, .val (.long ((((0 : Int64) + q2) + (0 : Int64)) + (0 : Int64))), .second, .val (.long ((((0 : Int64) + (0 : Int64)) + q3) + (0 : Int64))), .second, .val (.long ((((0 : Int64) + (0 : Int64)) + (0 : Int64)) + q4)), .second, .val (.long (((q1 + q2) + q3) + q4)), .second, .unset, .unset] [(.int (lcmpW (((q1 + (0 : Int64)) + (0 : Int64)) + (0 : Int64)) q1))])) t → Steps p.tables e below (s₁.setTop (mkF m 0 #[.val (.long q1), .second, .val (.long q2), .second, .val (.long q3), .second, .val (.long q4), .second, .unset, .unset, .unset, .unset, .unset, .unset, .unset, .unset, .unset, .unset, .unset, .unset, .unset, .unset, .unset, .unset, .unset] [])) t := by
    intro t k
    refine R225 t ?_
    refine XS.lstore X223.here hx rfl (hb hby at_102) rfl (l' := #[.val (.long q1), .second, .val (.long q2), .second, .val (.long q3), .second, .val (.long q4), .second, .val (.ref b1), .val (.ref b2), .val (.ref b3), .val (.ref b4), .val (.ref b5), .val (.long (((q1 + (0 : Int64)) + (0 : Int64)) + (0 : Int64))), .second, .val (.long ((((0 : Int64) + q2) + (0 : Int64)) + (0 : Int64))), .second, .val (.long ((((0 : Int64) + (0 : Int64)) + q3) + (0 : Int64))), .second, .val (.long ((((0 : Int64) + (0 : Int64)) + (0 : Int64)) + q4)), .second, .val (.long (((q1 + q2) + q3) + q4)), .second, .unset, .unset]) rfl ?_
    refine XS.lload X223.here hx rfl (hb hby at_104) rfl ?_
    refine XS.lloadN X223.here hx rfl (hb hby at_106) rfl ?_
    refine XS.lcmp X223.here hx rfl (hb hby at_107) rfl ?_
    exact k
  have R227 : ∀ t, Steps p.tables e below (T223.setTop (mkF m 111 #[.val (.long q1), .second, .val (.long q2), .second, .val (.long q3), .second, .val (.long q4), .second, .val (.ref b1), .val (.ref b2), .val (.ref b3), .val (.ref b4), .val (.ref b5), .val (.long (((q1 + (0 : Int64)) + (0 : Int64)) + (0 : Int64))), .second, .val (.long ((((0 : Int64) + q2) + (0 : Int64)) + (0 : Int64))), .second, .val (.long ((((0 : Int64) + (0 : Int64)) + q3) + (0 : Int64))), .second, .val (.long ((((0 : Int64) + (0 : Int64)) + (0 : Int64)) + q4)), .second, .val (.long (((q1 + q2) + q3) + q4)), .second, .unset, .unset] [])) t → Steps p.tables e below (s₁.setTop (mkF m 0 #[.val (.long q1), .second, .val (.long q2), .second, .val (.long q3), .second, .val (.long q4), .second, .unset, .unset, .unset, .unset, .unset, .unset, .unset, .unset, .unset, .unset, .unset, .unset, .unset, .unset, .unset, .unset, .unset] [])) t := by
    intro t k
    refine R226 t ?_
    refine XS.ifNo X223.here hx rfl (hb hby at_108) rfl ((if0 _ _).trans (teq ((lw_eq _ _).mpr (own_1 q1))).2) ?_
    exact k
  have R228 : ∀ t, Steps p.tables e below (T223.setTop (mkF m 115 #[.val (.long q1), .second, .val (.long q2), .second, .val (.long q3), .second, .val (.long q4), .second, .val (.ref b1), .val (.ref b2), .val (.ref b3), .val (.ref b4), .val (.ref b5), .val (.long (((q1 + (0 : Int64)) + (0 : Int64)) + (0 : Int64))), .second, .val (.long ((((0 : Int64) + q2) + (0 : Int64)) + (0 : Int64))), .second, .val (.long ((((0 : Int64) + (0 : Int64)) + q3) + (0 : Int64))), .second, .val (.long ((((0 : Int64) + (0 : Int64)) + (0 : Int64)) + q4)), .second, .val (.long (((q1 + q2) + q3) + q4)), .second, .unset, .unset] [(.int (lcmpW ((((0 : Int64) + q2) + (0 : Int64)) + (0 : Int64)) q2))])) t → Steps p.tables e below (s₁.setTop (mkF m 0 #[.val (.long q1), .second, .val (.long q2), .second, .val (.long q3), .second, .val (.long q4), .second, .unset, .unset, .unset, .unset, .unset, .unset, .unset, .unset, .unset, .unset, .unset, .unset, .unset, .unset, .unset, .unset, .unset] [])) t := by
    intro t k
    refine R227 t ?_
    refine XS.lload X223.here hx rfl (hb hby at_111) rfl ?_
    refine XS.lloadN X223.here hx rfl (hb hby at_113) rfl ?_
    refine XS.lcmp X223.here hx rfl (hb hby at_114) rfl ?_
    exact k
  have R229 : ∀ t, Steps p.tables e below (T223.setTop (mkF m 118 #[.val (.long q1), .second, .val (.long q2), .second, .val (.long q3), .second, .val (.long q4), .second, .val (.ref b1), .val (.ref b2), .val (.ref b3), .val (.ref b4), .val (.ref b5), .val (.long (((q1 + (0 : Int64)) + (0 : Int64)) + (0 : Int64))), .second, .val (.long ((((0 : Int64) + q2) + (0 : Int64)) + (0 : Int64))), .second, .val (.long ((((0 : Int64) + (0 : Int64)) + q3) + (0 : Int64))), .second, .val (.long ((((0 : Int64) + (0 : Int64)) + (0 : Int64)) + q4)), .second, .val (.long (((q1 + q2) + q3) + q4)), .second, .unset, .unset] [])) t → Steps p.tables e below (s₁.setTop (mkF m 0 #[.val (.long q1), .second, .val (.long q2), .second, .val (.long q3), .second, .val (.long q4), .second, .unset, .unset, .unset, .unset, .unset, .unset, .unset, .unset, .unset, .unset, .unset, .unset, .unset, .unset, .unset, .unset, .unset] [])) t := by
    intro t k
    refine R228 t ?_
    refine XS.ifNo X223.here hx rfl (hb hby at_115) rfl ((if0 _ _).trans (teq ((lw_eq _ _).mpr (own_2 q2))).2) ?_
    exact k
  have R230 : ∀ t, Steps p.tables e below (T223.setTop (mkF m 123 #[.val (.long q1), .second, .val (.long q2), .second, .val (.long q3), .second, .val (.long q4), .second, .val (.ref b1), .val (.ref b2), .val (.ref b3), .val (.ref b4), .val (.ref b5), .val (.long (((q1 + (0 : Int64)) + (0 : Int64)) + (0 : Int64))), .second, .val (.long ((((0 : Int64) + q2) + (0 : Int64)) + (0 : Int64))), .second, .val (.long ((((0 : Int64) + (0 : Int64)) + q3) + (0 : Int64))), .second, .val (.long ((((0 : Int64) + (0 : Int64)) + (0 : Int64)) + q4)), .second, .val (.long (((q1 + q2) + q3) + q4)), .second, .unset, .unset] [(.int (lcmpW ((((0 : Int64) + (0 : Int64)) + q3) + (0 : Int64)) q3))])) t → Steps p.tables e below (s₁.setTop (mkF m 0 #[.val (.long q1), .second, .val (.long q2), .second, .val (.long q3), .second, .val (.long q4), .second, .unset, .unset, .unset, .unset, .unset, .unset, .unset, .unset, .unset, .unset, .unset, .unset, .unset, .unset, .unset, .unset, .unset] [])) t := by
    intro t k
    refine R229 t ?_
    refine XS.lload X223.here hx rfl (hb hby at_118) rfl ?_
    refine XS.lload X223.here hx rfl (hb hby at_120) rfl ?_
    refine XS.lcmp X223.here hx rfl (hb hby at_122) rfl ?_
    exact k
  have R231 : ∀ t, Steps p.tables e below (T223.setTop (mkF m 126 #[.val (.long q1), .second, .val (.long q2), .second, .val (.long q3), .second, .val (.long q4), .second, .val (.ref b1), .val (.ref b2), .val (.ref b3), .val (.ref b4), .val (.ref b5), .val (.long (((q1 + (0 : Int64)) + (0 : Int64)) + (0 : Int64))), .second, .val (.long ((((0 : Int64) + q2) + (0 : Int64)) + (0 : Int64))), .second, .val (.long ((((0 : Int64) + (0 : Int64)) + q3) + (0 : Int64))), .second, .val (.long ((((0 : Int64) + (0 : Int64)) + (0 : Int64)) + q4)), .second, .val (.long (((q1 + q2) + q3) + q4)), .second, .unset, .unset] [])) t → Steps p.tables e below (s₁.setTop (mkF m 0 #[.val (.long q1), .second, .val (.long q2), .second, .val (.long q3), .second, .val (.long q4), .second, .unset, .unset, .unset, .unset, .unset, .unset, .unset, .unset, .unset, .unset, .unset, .unset, .unset, .unset, .unset, .unset, .unset] [])) t := by
    intro t k
    refine R230 t ?_
    refine XS.ifNo X223.here hx rfl (hb hby at_123) rfl ((if0 _ _).trans (teq ((lw_eq _ _).mpr (own_3 q3))).2) ?_
    exact k
  have R232 : ∀ t, Steps p.tables e below (T223.setTop (mkF m 131 #[.val (.long q1), .second, .val (.long q2), .second, .val (.long q3), .second, .val (.long q4), .second, .val (.ref b1), .val (.ref b2), .val (.ref b3), .val (.ref b4), .val (.ref b5), .val (.long (((q1 + (0 : Int64)) + (0 : Int64)) + (0 : Int64))), .second, .val (.long ((((0 : Int64) + q2) + (0 : Int64)) + (0 : Int64))), .second, .val (.long ((((0 : Int64) + (0 : Int64)) + q3) + (0 : Int64))), .second, .val (.long ((((0 : Int64) + (0 : Int64)) + (0 : Int64)) + q4)), .second, .val (.long (((q1 + q2) + q3) + q4)), .second, .unset, .unset] [(.int (lcmpW ((((0 : Int64) + (0 : Int64)) + (0 : Int64)) + q4) q4))])) t → Steps p.tables e below (s₁.setTop (mkF m 0 #[.val (.long q1), .second, .val (.long q2), .second, .val (.long q3), .second, .val (.long q4), .second, .unset, .unset, .unset, .unset, .unset, .unset, .unset, .unset, .unset, .unset, .unset, .unset, .unset, .unset, .unset, .unset, .unset] [])) t := by
    intro t k
    refine R231 t ?_
    refine XS.lload X223.here hx rfl (hb hby at_126) rfl ?_
    refine XS.lload X223.here hx rfl (hb hby at_128) rfl ?_
    refine XS.lcmp X223.here hx rfl (hb hby at_130) rfl ?_
    exact k
  have R233 : ∀ t, Steps p.tables e below (T223.setTop (mkF m 134 #[.val (.long q1), .second, .val (.long q2), .second, .val (.long q3), .second, .val (.long q4), .second, .val (.ref b1), .val (.ref b2), .val (.ref b3), .val (.ref b4), .val (.ref b5), .val (.long (((q1 + (0 : Int64)) + (0 : Int64)) + (0 : Int64))), .second, .val (.long ((((0 : Int64) + q2) + (0 : Int64)) + (0 : Int64))), .second, .val (.long ((((0 : Int64) + (0 : Int64)) + q3) + (0 : Int64))), .second, .val (.long ((((0 : Int64) + (0 : Int64)) + (0 : Int64)) + q4)), .second, .val (.long (((q1 + q2) + q3) + q4)), .second, .unset, .unset] [])) t → Steps p.tables e below (s₁.setTop (mkF m 0 #[.val (.long q1), .second, .val (.long q2), .second, .val (.long q3), .second, .val (.long q4), .second, .unset, .unset, .unset, .unset, .unset, .unset, .unset, .unset, .unset, .unset, .unset, .unset, .unset, .unset, .unset, .unset, .unset] [])) t := by
    intro t k
    refine R232 t ?_
    refine XS.ifNo X223.here hx rfl (hb hby at_131) rfl ((if0 _ _).trans (teq ((lw_eq _ _).mpr (own_4 q4))).2) ?_
    exact k
  have R234 : ∀ t, Steps p.tables e below (T223.setTop (mkF m 155 #[.val (.long q1), .second, .val (.long q2), .second, .val (.long q3), .second, .val (.long q4), .second, .val (.ref b1), .val (.ref b2), .val (.ref b3), .val (.ref b4), .val (.ref b5), .val (.long (((q1 + (0 : Int64)) + (0 : Int64)) + (0 : Int64))), .second, .val (.long ((((0 : Int64) + q2) + (0 : Int64)) + (0 : Int64))), .second, .val (.long ((((0 : Int64) + (0 : Int64)) + q3) + (0 : Int64))), .second, .val (.long ((((0 : Int64) + (0 : Int64)) + (0 : Int64)) + q4)), .second, .val (.long (((q1 + q2) + q3) + q4)), .second, .val (.int (1 : Int32)), .unset] [(.int (lcmpW (((q1 + q2) + q3) + q4) ((((((q1 + (0 : Int64)) + (0 : Int64)) + (0 : Int64)) + ((((0 : Int64) + q2) + (0 : Int64)) + (0 : Int64))) + ((((0 : Int64) + (0 : Int64)) + q3) + (0 : Int64))) + ((((0 : Int64) + (0 : Int64)) + (0 : Int64)) + q4))))])) t → Steps p.tables e below (s₁.setTop (mkF m 0 #[.val (.long q1), .second, .val (.long q2), .second, .val (.long q3), .second, .val (.long q4), .second, .unset, .unset, .unset, .unset, .unset, .unset, .unset, .unset, .unset, .unset, .unset, .unset, .unset, .unset, .unset, .unset, .unset] [])) t := by
    intro t k
    refine R233 t ?_
    refine XS.iconst X223.here hx rfl (hb hby at_134) ?_
    refine XS.goto X223.here hx rfl (pc0 := 135) (pc' := 139) rfl (hb hby at_135) (by decide) (by decide) ?_
    refine XS.istore X223.here hx rfl (hb hby at_139) rfl (l' := #[.val (.long q1), .second, .val (.long q2), .second, .val (.long q3), .second, .val (.long q4), .second, .val (.ref b1), .val (.ref b2), .val (.ref b3), .val (.ref b4), .val (.ref b5), .val (.long (((q1 + (0 : Int64)) + (0 : Int64)) + (0 : Int64))), .second, .val (.long ((((0 : Int64) + q2) + (0 : Int64)) + (0 : Int64))), .second, .val (.long ((((0 : Int64) + (0 : Int64)) + q3) + (0 : Int64))), .second, .val (.long ((((0 : Int64) + (0 : Int64)) + (0 : Int64)) + q4)), .second, .val (.long (((q1 + q2) + q3) + q4)), .second, .val (.int (1 : Int32)), .unset]) rfl ?_
    refine XS.lload X223.here hx rfl (hb hby at_141) rfl ?_
    refine XS.lload X223.here hx rfl (hb hby at_143) rfl ?_
    refine XS.lload X223.here hx rfl (hb hby at_145) rfl ?_
    refine XS.ladd X223.here hx rfl (hb hby at_147) rfl ?_
    refine XS.lload X223.here hx rfl (hb hby at_148) rfl ?_
    refine XS.ladd X223.here hx rfl (hb hby at_150) rfl ?_
    refine XS.lload X223.here hx rfl (hb hby at_151) rfl ?_
    refine XS.ladd X223.here hx rfl (hb hby at_153) rfl ?_
    refine XS.lcmp X223.here hx rfl (hb hby at_154) rfl ?_
    exact k
  have R235 : ∀ t, Steps p.tables e below (T223.setTop (mkF m 158 #[.val (.long q1), .second, .val (.long q2), .second, .val (.long q3), .second, .val (.long q4), .second, .val (.ref b1), .val (.ref b2), .val (.ref b3), .val (.ref b4), .val (.ref b5), .val (.long (((q1 + (0 : Int64)) + (0 : Int64)) + (0 : Int64))), .second, .val (.long ((((0 : Int64) + q2) + (0 : Int64)) + (0 : Int64))), .second, .val (.long ((((0 : Int64) + (0 : Int64)) + q3) + (0 : Int64))), .second, .val (.long ((((0 : Int64) + (0 : Int64)) + (0 : Int64)) + q4)), .second, .val (.long (((q1 + q2) + q3) + q4)), .second, .val (.int (1 : Int32)), .unset] [])) t → Steps p.tables e below (s₁.setTop (mkF m 0 #[.val (.long q1), .second, .val (.long q2), .second, .val (.long q3), .second, .val (.long q4), .second, .unset, .unset, .unset, .unset, .unset, .unset, .unset, .unset, .unset, .unset, .unset, .unset, .unset, .unset, .unset, .unset, .unset] [])) t := by
    intro t k
    refine R234 t ?_
    refine XS.ifNo X223.here hx rfl (hb hby at_155) rfl ((if0 _ _).trans (teq ((lw_eq _ _).mpr (by rw [own_1, own_2, own_3, own_4]))).2) ?_
    exact k
  have R236 : ∀ t, Steps p.tables e below (T223.setTop (mkF m 167 #[.val (.long q1), .second, .val (.long q2), .second, .val (.long q3), .second, .val (.long q4), .second, .val (.ref b1), .val (.ref b2), .val (.ref b3), .val (.ref b4), .val (.ref b5), .val (.long (((q1 + (0 : Int64)) + (0 : Int64)) + (0 : Int64))), .second, .val (.long ((((0 : Int64) + q2) + (0 : Int64)) + (0 : Int64))), .second, .val (.long ((((0 : Int64) + (0 : Int64)) + q3) + (0 : Int64))), .second, .val (.long ((((0 : Int64) + (0 : Int64)) + (0 : Int64)) + q4)), .second, .val (.long (((q1 + q2) + q3) + q4)), .second, .val (.int (1 : Int32)), .val (.int (1 : Int32))] [(.int (1 : Int32))])) t → Steps p.tables e below (s₁.setTop (mkF m 0 #[.val (.long q1), .second, .val (.long q2), .second, .val (.long q3), .second, .val (.long q4), .second, .unset, .unset, .unset, .unset, .unset, .unset, .unset, .unset, .unset, .unset, .unset, .unset, .unset, .unset, .unset, .unset, .unset] [])) t := by
    intro t k
    refine R235 t ?_
    refine XS.iconst X223.here hx rfl (hb hby at_158) ?_
    refine XS.goto X223.here hx rfl (pc0 := 159) (pc' := 163) rfl (hb hby at_159) (by decide) (by decide) ?_
    refine XS.istore X223.here hx rfl (hb hby at_163) rfl (l' := #[.val (.long q1), .second, .val (.long q2), .second, .val (.long q3), .second, .val (.long q4), .second, .val (.ref b1), .val (.ref b2), .val (.ref b3), .val (.ref b4), .val (.ref b5), .val (.long (((q1 + (0 : Int64)) + (0 : Int64)) + (0 : Int64))), .second, .val (.long ((((0 : Int64) + q2) + (0 : Int64)) + (0 : Int64))), .second, .val (.long ((((0 : Int64) + (0 : Int64)) + q3) + (0 : Int64))), .second, .val (.long ((((0 : Int64) + (0 : Int64)) + (0 : Int64)) + q4)), .second, .val (.long (((q1 + q2) + q3) + q4)), .second, .val (.int (1 : Int32)), .val (.int (1 : Int32))]) rfl ?_
    refine XS.iload X223.here hx rfl (hb hby at_165) rfl ?_
    exact k
  have R237 : ∀ t, Steps p.tables e below (T223.setTop (mkF m 170 #[.val (.long q1), .second, .val (.long q2), .second, .val (.long q3), .second, .val (.long q4), .second, .val (.ref b1), .val (.ref b2), .val (.ref b3), .val (.ref b4), .val (.ref b5), .val (.long (((q1 + (0 : Int64)) + (0 : Int64)) + (0 : Int64))), .second, .val (.long ((((0 : Int64) + q2) + (0 : Int64)) + (0 : Int64))), .second, .val (.long ((((0 : Int64) + (0 : Int64)) + q3) + (0 : Int64))), .second, .val (.long ((((0 : Int64) + (0 : Int64)) + (0 : Int64)) + q4)), .second, .val (.long (((q1 + q2) + q3) + q4)), .second, .val (.int (1 : Int32)), .val (.int (1 : Int32))] [])) t → Steps p.tables e below (s₁.setTop (mkF m 0 #[.val (.long q1), .second, .val (.long q2), .second, .val (.long q3), .second, .val (.long q4), .second, .unset, .unset, .unset, .unset, .unset, .unset, .unset, .unset, .unset, .unset, .unset, .unset, .unset, .unset, .unset, .unset, .unset] [])) t := by
    intro t k
    refine R236 t ?_
    refine XS.ifNo X223.here hx rfl (hb hby at_167) rfl ((if0 _ _).trans (feq (by decide)).1) ?_
    exact k
  have R238 : ∀ t, Steps p.tables e below (T223.setTop (mkF m 172 #[.val (.long q1), .second, .val (.long q2), .second, .val (.long q3), .second, .val (.long q4), .second, .val (.ref b1), .val (.ref b2), .val (.ref b3), .val (.ref b4), .val (.ref b5), .val (.long (((q1 + (0 : Int64)) + (0 : Int64)) + (0 : Int64))), .second, .val (.long ((((0 : Int64) + q2) + (0 : Int64)) + (0 : Int64))), .second, .val (.long ((((0 : Int64) + (0 : Int64)) + q3) + (0 : Int64))), .second, .val (.long ((((0 : Int64) + (0 : Int64)) + (0 : Int64)) + q4)), .second, .val (.long (((q1 + q2) + q3) + q4)), .second, .val (.int (1 : Int32)), .val (.int (1 : Int32))] [(.int (1 : Int32))])) t → Steps p.tables e below (s₁.setTop (mkF m 0 #[.val (.long q1), .second, .val (.long q2), .second, .val (.long q3), .second, .val (.long q4), .second, .unset, .unset, .unset, .unset, .unset, .unset, .unset, .unset, .unset, .unset, .unset, .unset, .unset, .unset, .unset, .unset, .unset] [])) t := by
    intro t k
    refine R237 t ?_
    refine XS.iload X223.here hx rfl (hb hby at_170) rfl ?_
    exact k
  have R239 : ∀ t, Steps p.tables e below (T223.setTop (mkF m 175 #[.val (.long q1), .second, .val (.long q2), .second, .val (.long q3), .second, .val (.long q4), .second, .val (.ref b1), .val (.ref b2), .val (.ref b3), .val (.ref b4), .val (.ref b5), .val (.long (((q1 + (0 : Int64)) + (0 : Int64)) + (0 : Int64))), .second, .val (.long ((((0 : Int64) + q2) + (0 : Int64)) + (0 : Int64))), .second, .val (.long ((((0 : Int64) + (0 : Int64)) + q3) + (0 : Int64))), .second, .val (.long ((((0 : Int64) + (0 : Int64)) + (0 : Int64)) + q4)), .second, .val (.long (((q1 + q2) + q3) + q4)), .second, .val (.int (1 : Int32)), .val (.int (1 : Int32))] [])) t → Steps p.tables e below (s₁.setTop (mkF m 0 #[.val (.long q1), .second, .val (.long q2), .second, .val (.long q3), .second, .val (.long q4), .second, .unset, .unset, .unset, .unset, .unset, .unset, .unset, .unset, .unset, .unset, .unset, .unset, .unset, .unset, .unset, .unset, .unset] [])) t := by
    intro t k
    refine R238 t ?_
    refine XS.ifNo X223.here hx rfl (hb hby at_172) rfl ((if0 _ _).trans (feq (by decide)).1) ?_
    exact k
  have R240 : ∀ t, Steps p.tables e below (T223.setTop (mkF m 180 #[.val (.long q1), .second, .val (.long q2), .second, .val (.long q3), .second, .val (.long q4), .second, .val (.ref b1), .val (.ref b2), .val (.ref b3), .val (.ref b4), .val (.ref b5), .val (.long (((q1 + (0 : Int64)) + (0 : Int64)) + (0 : Int64))), .second, .val (.long ((((0 : Int64) + q2) + (0 : Int64)) + (0 : Int64))), .second, .val (.long ((((0 : Int64) + (0 : Int64)) + q3) + (0 : Int64))), .second, .val (.long ((((0 : Int64) + (0 : Int64)) + (0 : Int64)) + q4)), .second, .val (.long (((q1 + q2) + q3) + q4)), .second, .val (.int (1 : Int32)), .val (.int (1 : Int32))] [(.int (1 : Int32))])) t → Steps p.tables e below (s₁.setTop (mkF m 0 #[.val (.long q1), .second, .val (.long q2), .second, .val (.long q3), .second, .val (.long q4), .second, .unset, .unset, .unset, .unset, .unset, .unset, .unset, .unset, .unset, .unset, .unset, .unset, .unset, .unset, .unset, .unset, .unset] [])) t := by
    intro t k
    refine R239 t ?_
    refine XS.iconst X223.here hx rfl (hb hby at_175) ?_
    refine XS.goto X223.here hx rfl (pc0 := 176) (pc' := 180) rfl (hb hby at_176) (by decide) (by decide) ?_
    exact k
  obtain ⟨fs, hr, hrun, hended, hW, hsame⟩ := X223.leave (v := some (.int (1 : Int32))) (fun h => by rw [Bd.returns] at h; cases h)
  refine ⟨_, _, pre0 _ (R240 _ (retN X223 hx (t := .boolean) Bd.returns (by simp) (hb hby at_180) hr)), hrun, hended, _, _, rfl, ?_, ⟨_, rfl⟩, hW, hsame.mono (by decide) (by decide)⟩
  show Q_rm0 Z q1 q2 q3 q4  h0 n0 _ T223.heap _
  rw [e223]
  exact ⟨rfl, N223⟩
set_option maxRecDepth 65536 in
set_option maxHeartbeats 40000000 in
theorem comes_1 {Post : Tables → Env → Array Value → State → Outcome → State → Prop} (hpost : ∀ tb e args s v u, (limb_1_1.after args s (.returned v) u = true ∧ limb_1_2.after args s (.returned v) u = true ∧ True) → FrameEnd s (.returned v) u (Jvm.fieldLocs frame_1_writes args s ++ Jvm.arrayLocs frame_1_arrays args s ++ Jvm.staticLocs frame_1_statics s) 24 128 → Post tb e args s (.returned v) u) :
    ArmFor flags0 classFile x code maxLocals ret World_1 tables_1 room_1 Calls_1 rest_1 Pre_1 Post := by
  intro l hfl _ _ p e ha hc hk s m args below hf hA hF happ hP
  obtain ⟨hcalls, hrest, hpre⟩ := hP
  obtain ⟨-, -, -, hnamed, -, -, -, hat⟩ := (Spec.applies_iff hf).mp happ
  obtain ⟨hg, hn⟩ := and_e (Cond.before_iff.mp (show (Jvm.Cond.and given_1 narrow_1).before args s = true from hpre))
  obtain ⟨g0, r0⟩ := and_e hg
  obtain ⟨g1, r1⟩ := and_e r0
  obtain ⟨g2, r2⟩ := and_e r1
  obtain ⟨g3, r3⟩ := and_e r2
  obtain ⟨w0, w1, w2, w3, rfl⟩ : ∃ w0 w1 w2 w3 : Value, args = #[w0, w1, w2, w3] := by
    have hs : args.size = 4 := by simpa [Cond.value, given_1] using g0
    obtain ⟨L⟩ := args
    match L, hs with
    | [w0, w1, w2, w3], _ => exact ⟨w0, w1, w2, w3, rfl⟩
  have hw := fun d (hd : d ∈ tables_1) => atoms_spec (ws := Jvm.Cond.code x code maxLocals ret :: tables_1) hat d (List.mem_cons_of_mem _ hd)
  have hfit : Fit s := fun {y c} hc i hi => by
    obtain ⟨ha, rfl⟩ := Array.getElem?_eq_some_iff.mp hc
    have q := List.all_eq_true.mp ((Array.all_eq_true_iff_forall_mem.mp hF) _ (Array.getElem_mem ha)) i (List.mem_range.mpr hi)
    simpa [Array.getElem?_eq_getElem hi] using q
  obtain ⟨i0, ei0⟩ := isL_v g1
  obtain rfl : w0 = (.long i0) := Option.some.inj ei0
  obtain ⟨i1, ei1⟩ := isL_v g2
  obtain rfl : w1 = (.long i1) := Option.some.inj ei1
  obtain ⟨i2, ei2⟩ := isL_v g3
  obtain rfl : w2 = (.long i2) := Option.some.inj ei2
  obtain ⟨i3, ei3⟩ := isL_v r3
  obtain rfl : w3 = (.long i3) := Option.some.inj ei3
  obtain ⟨n, o, h1, h2, h3, _, L, rfl, ⟨rfl, N⟩, hq⟩ := rm0 l s _ hw tables_1 i0 i1 i2 i3  s.heap s.heap.size (Nat.le_refl _)  p e ha hc hk s m _ below hf ((Spec.applies_iff_loose hf).mp happ).1 ⟨rfl, State.Warmed39.refl s, rfl⟩ trivial
  refine ⟨n, _, h1, h2, h3, hpost _ _ _ _ _ _ ⟨Cond.after_iff.mpr rfl, Cond.after_iff.mpr (eq_i res_at (Term.int_eval (1)) rfl), trivial⟩ ⟨hq.1, hq.2.1, (hq.2.2.sift fun y hy => Or.inr (N y hy)).mono (by decide) (by decide)⟩⟩
theorem main_1_1 : Claimed_1_1 := comes_1 fun _ _ _ _ _ _ h hF => ⟨h.1, hF⟩
theorem main_1_2 : Claimed_1_2 := comes_1 fun _ _ _ _ _ _ h hF => ⟨h.2.1, hF⟩
end Jvm.Pilot.@@N@@
namespace Jvm.Pilot.@@N@@
open Jvm Jvm.ClassFile Sem Op Lib Jvm.Free Jvm.Stand Jvm.Pilot.@@N@@.Jvm.D
/-! MADE BY PROGRAM (witnessworld.py) out of the Statement's table words and the real class files: 8 classes; the members and pool entries that the words name. The judged class is class 1, her method 1. -/
namespace start1
open Jvm.ClassFile
def u (s : String) : CpInfo := .utf8 (stringToUtf16 s)
/-- a pool by its gaps: so many unusable entries, then the entry; so many at the end -/
def gap : Nat → List CpInfo → List CpInfo
  | 0, r => r
  | n + 1, r => .unusable :: gap n r
def poolList (es : List (Nat × CpInfo)) (last : Nat) : List CpInfo := es.foldr (fun e r => gap e.1 (e.2 :: r)) (gap last [])
def pool (es : List (Nat × CpInfo)) (last : Nat) : Array CpInfo := ⟨poolList es last⟩
def fileOf (pool : Array CpInfo) (this : Nat) (attrs : Array Attribute := #[]) (ms : Array MethodInfo := #[]) (fl : Nat := 33) (sup : Nat := 0) (ifs : Array Nat := #[]) (fds : Array FieldInfo := #[]) : ClassFile where
  minorVersion := 0
  majorVersion := 65
  constantPool := pool
  accessFlags := fl
  thisClass := this
  superClass := sup
  interfaces := ifs
  fields := fds
  methods := ms
  attributes := attrs
def plain (name : String) (sup : Option ClassId) : Class where
  name := name
  kind := .ordinary
  loader := none
  accessFlags := 33
  super := sup
  interfaces := #[]
  cf := none
  fields := #[]
  methods := #[]
  instanceTypes := #[]
  staticTypes := #[]
  resolved := #[]
  callSites := []
  init := .initialized
  statics := none
  mirror := none

def pool0 : Array CpInfo := pool [(5, u "<init>"), (0, u "()V"), (1, .class_ 10), (1, u "java/lang/Object")] 113

def k0c0 : Code := { maxStack := 0, maxLocals := 1, code := object_method_1_code, exceptionTable := #[], attributes := #[] }
def k0m0 : Method := { name := "<init>", desc := "()V", sig := { parameters := [], returnType := none }, accessFlags := 1, code := some k0c0 }
/-- java/lang/Object -/
def k0 : Class := { plain "java/lang/Object" none with
  accessFlags := 33
  interfaces := #[]
  cf := some (fileOf pool0 8 #[] #[{ accessFlags := 1, nameIndex := 5, descriptorIndex := 6, attributes := #[] }] 33 0 #[] #[])
  fields := #[]
  methods := #[k0m0]
  instanceTypes := #[]
  staticTypes := #[]
  resolved := Array.replicate 124 none
  statics := none }

def pool1 : Array CpInfo := pool [(2, .class_ 4), (1, u "java/lang/Object"), (0, u "<init>"), (0, u "()V"), (0, .class_ 8), (0, u "com/example/underwright/underwright/tape/Tape$Summary"), (0, .methodref 7 10), (0, .nameAndType 5 11), (0, u "(JJJJ)V"), (0, .methodref 7 13), (0, .nameAndType 14 15), (0, u "loans"), (0, u "()J"), (0, .class_ 17), (0, u "com/example/underwright/underwright/tape/SummaryLoansPinLaw"), (2, u "law"), (0, u "(JJJJ)Z")] 7

def k1m0 : Method := { name := "<init>", desc := "()V", sig := { parameters := [], returnType := none }, accessFlags := 2, code := none }
def k1c1 : Code := { maxStack := 10, maxLocals := 25, code := code, exceptionTable := #[], attributes := #[] }
def k1m1 : Method := { name := "law", desc := "(JJJJ)Z", sig := { parameters := [.long, .long, .long, .long], returnType := some .boolean }, accessFlags := 9, code := some k1c1 }
/-- com/example/underwright/underwright/tape/SummaryLoansPinLaw -/
def k1 : Class := { plain "com/example/underwright/underwright/tape/SummaryLoansPinLaw" (some 0) with
  accessFlags := 49
  interfaces := #[]
  cf := some (fileOf pool1 16 #[] #[{ accessFlags := 2, nameIndex := 5, descriptorIndex := 6, attributes := #[] }, { accessFlags := 9, nameIndex := 20, descriptorIndex := 21, attributes := #[] }] 49 2 #[] #[])
  fields := #[]
  methods := #[k1m0, k1m1]
  instanceTypes := #[]
  staticTypes := #[]
  resolved := Array.replicate 29 none
  statics := none }

def pool2 : Array CpInfo := pool [(1, .methodref 2 3), (0, .class_ 4), (0, .nameAndType 5 6), (0, u "java/lang/Object"), (0, u "<init>"), (0, u "()V"), (0, .class_ 8), (0, u "java/lang/Record")] 13

def k2c0 : Code := { maxStack := 1, maxLocals := 1, code := jdk_30_method_1_code, exceptionTable := #[], attributes := #[] }
def k2m0 : Method := { name := "<init>", desc := "()V", sig := { parameters := [], returnType := none }, accessFlags := 4, code := some k2c0 }
/-- java/lang/Record -/
def k2 : Class := { plain "java/lang/Record" (some 0) with
  accessFlags := 1057
  interfaces := #[]
  cf := some (fileOf pool2 7 #[] #[{ accessFlags := 4, nameIndex := 5, descriptorIndex := 6, attributes := #[] }] 1057 2 #[] #[])
  fields := #[]
  methods := #[k2m0]
  instanceTypes := #[]
  staticTypes := #[]
  resolved := Array.replicate 22 none
  statics := none }

def pool3 : Array CpInfo := pool [(1, .methodref 2 3), (0, .class_ 4), (0, .nameAndType 5 6), (0, u "java/lang/Record"), (0, u "<init>"), (0, u "()V"), (0, .fieldref 8 9), (0, .class_ 10), (0, .nameAndType 11 12), (0, u "com/example/underwright/underwright/tape/Tape$Summary"), (0, u "eligible"), (0, u "J"), (0, .fieldref 8 14), (0, .nameAndType 15 12), (0, u "ineligible"), (0, .fieldref 8 17), (0, .nameAndType 18 12), (0, u "incomplete"), (0, .fieldref 8 20), (0, .nameAndType 21 12), (0, u "errors"), (12, u "(JJJJ)V"), (3, u "loans"), (0, u "()J"), (6, .class_ 47), (0, u "com/example/underwright/underwright/tape/Tape")] 22

def k3c0 : Code := { maxStack := 3, maxLocals := 9, code := prog_105_method_1_code, exceptionTable := #[], attributes := #[] }
def k3m0 : Method := { name := "<init>", desc := "(JJJJ)V", sig := { parameters := [.long, .long, .long, .long], returnType := none }, accessFlags := 0, code := some k3c0 }
def k3c1 : Code := { maxStack := 4, maxLocals := 1, code := prog_105_method_2_code, exceptionTable := #[], attributes := #[] }
def k3m1 : Method := { name := "loans", desc := "()J", sig := { parameters := [], returnType := some .long }, accessFlags := 0, code := some k3c1 }
/-- com/example/underwright/underwright/tape/Tape$Summary -/
def k3 : Class := { plain "com/example/underwright/underwright/tape/Tape$Summary" (some 2) with
  accessFlags := 48
  interfaces := #[]
  cf := some (fileOf pool3 8 #[.nestHost 46] #[{ accessFlags := 0, nameIndex := 5, descriptorIndex := 34, attributes := #[] }, { accessFlags := 0, nameIndex := 38, descriptorIndex := 39, attributes := #[] }] 48 2 #[] #[{ accessFlags := 18, nameIndex := 11, descriptorIndex := 12, attributes := #[] }, { accessFlags := 18, nameIndex := 15, descriptorIndex := 12, attributes := #[] }, { accessFlags := 18, nameIndex := 18, descriptorIndex := 12, attributes := #[] }, { accessFlags := 18, nameIndex := 21, descriptorIndex := 12, attributes := #[] }])
  fields := #[{ name := "eligible", type := .long, accessFlags := 18, slot := 0, constantValue := 0 }, { name := "ineligible", type := .long, accessFlags := 18, slot := 1, constantValue := 0 }, { name := "incomplete", type := .long, accessFlags := 18, slot := 2, constantValue := 0 }, { name := "errors", type := .long, accessFlags := 18, slot := 3, constantValue := 0 }]
  methods := #[k3m0, k3m1]
  instanceTypes := #[.long, .long, .long, .long]
  staticTypes := #[]
  resolved := Array.replicate 70 none
  statics := none }

def pool4 : Array CpInfo := pool [(1, u "java/lang/Cloneable"), (0, .class_ 1), (0, u "java/lang/Object"), (0, .class_ 3)] 3

/-- java/lang/Cloneable -/
def k4 : Class := { plain "java/lang/Cloneable" (some 0) with
  accessFlags := 1537
  interfaces := #[]
  cf := some (fileOf pool4 2 #[] #[] 1537 4 #[] #[])
  fields := #[]
  methods := #[]
  instanceTypes := #[]
  staticTypes := #[]
  resolved := Array.replicate 8 none
  statics := none }

def pool5 : Array CpInfo := pool [(1, u "java/io/Serializable"), (0, .class_ 1), (0, u "java/lang/Object"), (0, .class_ 3)] 3

/-- java/io/Serializable -/
def k5 : Class := { plain "java/io/Serializable" (some 0) with
  accessFlags := 1537
  interfaces := #[]
  cf := some (fileOf pool5 2 #[] #[] 1537 4 #[] #[])
  fields := #[]
  methods := #[]
  instanceTypes := #[]
  staticTypes := #[]
  resolved := Array.replicate 8 none
  statics := none }

/-- the primitive byte -/
def k6 : Class := { plain "byte" none with kind := .primitive 'B', accessFlags := 0x411 }
/-- [B -/
def k7 : Class := { plain "[B" (some 0) with kind := .array 6 .byte, interfaces := #[4, 5], accessFlags := 1041 }

def heap : Heap := #[]
def classes : Array Class := #[k0, k1, k2, k3, k4, k5, k6, k7]
def interned : List (Array UInt16 × Addr) := []
def slotsUsed : Nat := 0
def theMethod : MethodId := ⟨1, 1⟩
def args0 : Array Value := #[.long 5, .long 6, .long 7, .long 8]
def aboutOver (below : List Frame) : State where
  vm := { classes := classes, interned := interned.toArray }
  heap := heap
  slotsUsed := slotsUsed
  threads := #[{ frames := .invoking theMethod args0 :: below }]
def below0 : List Frame := [.native { method := ⟨0, 0⟩, args := #[] }]
def about1 : State := aboutOver below0
def p0 : Program := .bare "" "" ""
def e0 : Env := launch0.env 0 0 0
theorem w_frames : about1.frames = Frame.invoking theMethod args0 :: below0 := rfl
set_option maxRecDepth 65536 in
theorem w_args : argsFit about1.vm theMethod args0 = true := by decide +kernel
set_option maxRecDepth 65536 in
theorem w_heap : heapFits about1 = true := by decide +kernel
set_option maxRecDepth 65536 in
theorem w_runnable : about1.curStatus? = some .runnable := by decide +kernel
set_option maxRecDepth 65536 in
theorem w_alone : about1.alone = true := by decide +kernel
set_option maxRecDepth 65536 in
theorem w_named : about1.methodNamed? x = some theMethod := by decide +kernel
set_option maxRecDepth 65536 in
theorem w_hears : about1.hears theMethod below0 = true := by decide +kernel
set_option maxRecDepth 65536 in
theorem w_ripe : about1.ripe theMethod args0 below0 = true := by decide +kernel
theorem w_running : about1.status = .running := rfl
set_option maxRecDepth 65536 in
theorem w_room : about1.hasRoom e0.platform room_1 = true :=
  launch0.hasRoom_least _ room_1 (by decide +kernel) (by decide +kernel) (by decide +kernel) (by decide +kernel) (by decide +kernel) (by decide +kernel)
theorem allAtoms_all (ts : List Jvm.Cond) (a : Array Jvm.Value) (st : Jvm.State) : (allAtoms ts).before a st = ts.all (fun c => c.before a st) := by
  induction ts with
  | nil => rfl
  | cons c t ih =>
    show (Jvm.Cond.and c (allAtoms t)).before a st = _
    rw [Jvm.Cond.before_and, ih, List.all_cons]
def words1 : List Jvm.Cond := Jvm.Cond.code x code maxLocals ret :: tables_1
/-- a 'code' word, met by the world's own term for the bytes: nothing is compared byte by byte -/
theorem code_word {y : MethodName} {bytes : ByteArray} {mx : Nat} {rt : Option FieldType} {a : Array Value} {s : State} {m : MethodId} {meth : Method} {c : Code} (h1 : s.methodNamed? y = some m) (h2 : s.vm.method? m = some meth) (h3 : meth.code = some c) (h4 : c.code = bytes)
    (h5 : (c.maxLocals == mx && c.exceptionTable.isEmpty && decide (c.maxStack ≤ mostOperands) && decide (meth.sig.returnType = rt) && !meth.locks && decide (parseMethodDescriptor y.desc = some meth.sig)) = true) : (Jvm.Cond.code y bytes mx rt).before a s = true := by
  simp only [Bool.and_eq_true, beq_iff_eq, Bool.not_eq_true', decide_eq_true_eq] at h5
  obtain ⟨⟨⟨⟨⟨g1, g2⟩, g3⟩, g4⟩, g5⟩, g6⟩ := h5
  simp [Cond.before, Cond.holds, Cond.value, h1, h2, h3, h4, g1, g2, g3, g4, g5, g6]
def isCode : Jvm.Cond → Bool
  | .code _ _ _ _ => true
  | _ => false
theorem all_split {L : List Jvm.Cond} {P : Jvm.Cond → Bool} (h1 : L.all (fun c => isCode c || P c) = true) (h2 : ∀ c ∈ L.filter isCode, P c = true) : L.all P = true := by
  refine List.all_eq_true.mpr fun c hc => ?_
  have h := List.all_eq_true.mp h1 c hc
  rcases Bool.eq_false_or_eq_true (isCode c) with hi | hi
  · exact h2 c (List.mem_filter.mpr ⟨hc, hi⟩)
  · simpa [hi] using h
set_option maxRecDepth 65536 in
theorem w_c0 : (Jvm.Cond.code x code maxLocals ret).before args0 about1 = true := code_word (m := ⟨1, 1⟩) (meth := k1m1) (c := k1c1) (by decide +kernel) rfl rfl rfl (by decide +kernel)
set_option maxRecDepth 65536 in
theorem w_c1 : (Jvm.Cond.code ({ cls := "com/example/underwright/underwright/tape/Tape$Summary", name := "<init>", desc := "(JJJJ)V" } : Jvm.MethodName) prog_105_method_1_code (9 : Nat) (Option.none : Option Jvm.ClassFile.FieldType)).before args0 about1 = true := code_word (m := ⟨3, 0⟩) (meth := k3m0) (c := k3c0) (by decide +kernel) rfl rfl rfl (by decide +kernel)
set_option maxRecDepth 65536 in
theorem w_c2 : (Jvm.Cond.code ({ cls := "java/lang/Record", name := "<init>", desc := "()V" } : Jvm.MethodName) jdk_30_method_1_code (1 : Nat) (Option.none : Option Jvm.ClassFile.FieldType)).before args0 about1 = true := code_word (m := ⟨2, 0⟩) (meth := k2m0) (c := k2c0) (by decide +kernel) rfl rfl rfl (by decide +kernel)
set_option maxRecDepth 65536 in
theorem w_c3 : (Jvm.Cond.code ({ cls := "java/lang/Object", name := "<init>", desc := "()V" } : Jvm.MethodName) object_method_1_code (1 : Nat) (Option.none : Option Jvm.ClassFile.FieldType)).before args0 about1 = true := code_word (m := ⟨0, 0⟩) (meth := k0m0) (c := k0c0) (by decide +kernel) rfl rfl rfl (by decide +kernel)
set_option maxRecDepth 65536 in
theorem w_c4 : (Jvm.Cond.code ({ cls := "com/example/underwright/underwright/tape/Tape$Summary", name := "loans", desc := "()J" } : Jvm.MethodName) prog_105_method_2_code (1 : Nat) (Option.some Jvm.ClassFile.FieldType.long)).before args0 about1 = true := code_word (m := ⟨3, 1⟩) (meth := k3m1) (c := k3c1) (by decide +kernel) rfl rfl rfl (by decide +kernel)
def codes1 : List Jvm.Cond := [Jvm.Cond.code x code maxLocals ret, Jvm.Cond.code ({ cls := "com/example/underwright/underwright/tape/Tape$Summary", name := "<init>", desc := "(JJJJ)V" } : Jvm.MethodName) prog_105_method_1_code (9 : Nat) (Option.none : Option Jvm.ClassFile.FieldType), Jvm.Cond.code ({ cls := "java/lang/Record", name := "<init>", desc := "()V" } : Jvm.MethodName) jdk_30_method_1_code (1 : Nat) (Option.none : Option Jvm.ClassFile.FieldType), Jvm.Cond.code ({ cls := "java/lang/Object", name := "<init>", desc := "()V" } : Jvm.MethodName) object_method_1_code (1 : Nat) (Option.none : Option Jvm.ClassFile.FieldType), Jvm.Cond.code ({ cls := "com/example/underwright/underwright/tape/Tape$Summary", name := "loans", desc := "()J" } : Jvm.MethodName) prog_105_method_2_code (1 : Nat) (Option.some Jvm.ClassFile.FieldType.long)]
set_option maxRecDepth 65536 in
theorem codes_eq : words1.filter isCode = codes1 := rfl
theorem w_codes : ∀ c ∈ words1.filter isCode, c.before args0 about1 = true := by
  rw [codes_eq]
  intro c hc
  simp only [codes1, List.mem_cons, List.not_mem_nil, or_false] at hc
  rcases hc with rfl | rfl | rfl | rfl | rfl
  · exact w_c0
  · exact w_c1
  · exact w_c2
  · exact w_c3
  · exact w_c4
set_option maxRecDepth 65536 in
theorem w_t1 : (words1.take 24).all (fun c => isCode c || c.before args0 about1) = true := by decide +kernel
set_option maxRecDepth 65536 in
theorem w_t2 : (words1.drop 24).all (fun c => isCode c || c.before args0 about1) = true := by decide +kernel
theorem w_tables : (allAtoms (Jvm.Cond.code x code maxLocals ret :: tables_1)).before args0 about1 = true := by
  rw [allAtoms_all]
  show words1.all (fun c => c.before args0 about1) = true
  refine all_split ?_ w_codes
  rw [← List.take_append_drop 24 words1, List.all_append, w_t1, w_t2]
  rfl
set_option maxRecDepth 65536 in
theorem w_case : (Jvm.Cond.and given_1 narrow_1).before args0 about1 = true := by decide +kernel
theorem w_applies : (headSpec (Jvm.Cond.code x code maxLocals ret :: tables_1) room_1).applies x e0.platform about1 = true :=
  (Spec.applies_iff w_frames).mpr ⟨w_running, w_runnable, w_alone, w_named, w_hears, w_ripe, w_room, w_tables⟩
theorem atStart : AtStart classFile x code maxLocals ret World_1 tables_1 room_1 Calls_1 rest_1 Pre_1 launch0 p0 e0 about1 theMethod args0 below0 :=
  ⟨lists_1, trivial, launch0.admits_env _ _ _, launch0.least_env, fairChoices_fair.cas, fairChoices_fair.clock, w_frames, w_args, w_heap, w_applies, trivial, trivial, w_case⟩
end start1
theorem witness_1 : WitnessClaimed_1 := ⟨start1.p0, start1.e0, start1.about1, start1.theMethod, start1.args0, start1.below0, start1.atStart⟩
end Jvm.Pilot.@@N@@
