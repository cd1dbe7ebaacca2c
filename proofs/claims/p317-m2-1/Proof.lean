import JvmDerived
import JvmDerived.Pilot.@@N@@Statement
import JvmDerived.Pilot.@@N@@Code
set_option linter.unusedVariables false
set_option linter.unusedSimpArgs false
namespace Jvm.RoadKit
open Sem ClassFile Op Lib Jvm.Stand Jvm.Free Jvm.LawKit
section New
variable {p : Program} {l : Launch} {e : Env} {R : Room} {s : State} {m : MethodId} {args : Array Value} {below : List Frame} {meth : Method} {c : Code} {T : State} {locs : List Loc} {cells slots : Nat}
theorem retI (X : Stand p l e R s m args below meth c T locs cells slots) (hx : p.tables.exec = Jvm.exec) {pc : Nat} {Ls : Array Slot} {z : Int32} {rest : List Value} (hret : meth.sig.returnType = some .int) (hd : decode c.code pc = .ok (.ireturn, 1)) {fs : List Frame}
    (hl : ∀ (f : JFrame) (acts : List Action), f.method = m → f.locked = none → f.entered = [] → (doReturn e (T.setTop f) acts (some (.int z))).1 = T.setFrames fs) : Steps p.tables e below (T.setTop (mkF m pc Ls (.int z :: rest))) (T.setFrames fs) := by
  have hm' : T.vm.method? m = some meth := X.method'
  have hn : narrow .int (.int z) = .int z := rfl
  show Steps p.tables e below (T.setTop { method := m, pc := pc, locals := Ls, stack := _ :: rest, locked := none }) _
  jvm_step X.here [X.here.top, hx, hd, hm', hret, hn]
  first | (intro acts; rw [hl _ acts rfl rfl rfl]) | rw [hl _ _ rfl rfl rfl]
  exact Steps.refl _
end New
end Jvm.RoadKit
namespace Jvm.Pilot.@@N@@
open Jvm Jvm.ClassFile Sem Op Lib Jvm.Free Jvm.Stand Jvm.LawKit Jvm.RoadKit Bundle Jvm.Pilot.@@N@@.Jvm.D
theorem own_exa_st {Z : State} {h : Heap} {a : Addr} {C : String} (E : Exa Z h a C) : ∀ c : Cell, h[a]? = some c → c.vm.isStatics = false := fun c hc => by
  obtain ⟨c1, _, h1, -, -, h4, -⟩ := E; cases h1.symm.trans hc; exact h4
theorem own_arv_st {Z : State} {h : Heap} {a : Addr} {k : ClassId} {ty : FieldType} {n : Int32} {vs : List Value} {d : Value} (E : Arv Z h a k ty n vs d) : ∀ c : Cell, h[a]? = some c → c.vm.isStatics = false := fun c hc => by
  obtain ⟨c1, A, -⟩ := E; cases A.1.symm.trans hc; exact A.plain
theorem own_sta_keep {Z : State} {h h' : Heap} {C n d : String} {v : Value} {ws : List Addr} (F : Sta Z h C n d v) (K : Keep h h' ws) (q : ∀ x ∈ ws, ∀ c : Cell, h[x]? = some c → c.vm.isStatics = false) : Sta Z h' C n d v := by
  obtain ⟨cf, i, k, f, st, cell, h1, h2, h3, h4, h5, h6, h7⟩ := F
  exact ⟨cf, i, k, f, st, cell, h1, h2, h3, h4, K.2.1 st cell h5 (fun hm => by rw [q st hm cell h5] at h6; cases h6), h6, h7⟩
theorem own_1 (a b : Int32) : (((a + (1 : Int32)) + b) + (1 : Int32)) = ((a + b) + (2 : Int32)) := by
  rw [Int32.add_assoc a 1 b, Int32.add_comm 1 b, ← Int32.add_assoc a b 1, Int32.add_assoc (a + b) 1 1]; rfl
theorem own_2 (x y : Int32) : (x + y) - x = y := by rw [Int32.add_comm, Int32.add_sub_cancel]
theorem d3_0 : decode jdk_22_method_1_code 0 = .ok (.aload_n 0, 1) := by decide +kernel
theorem d3_1 : decode jdk_22_method_1_code 1 = .ok (.invokespecial 1, 3) := by decide +kernel
theorem d3_4 : decode jdk_22_method_1_code 4 = .ok (.return_, 1) := by decide +kernel
theorem pn_0 : plainName "java/util/AbstractCollection" = true := by first | (simp [plainName, overriddenIn]; done) | decide +kernel
theorem ef_rm3 (m : MethodId) (x0 : Addr) : entryFrame m #[(.ref x0)] 1 = mkF m 0 #[.val (.ref x0)] [] := by first | (simp [entryFrame, mkF, argsToLocals, Value.category]; done) | rfl
def Q_rm3 (Z : State) (a1 : Addr)  (h0 : Heap) (n0 : Nat) (v : Option Value) (h : Heap) (L : List Loc) : Prop := v = none ∧ Fr n0 L ∧ h = h0
set_option maxRecDepth 65536 in
set_option maxHeartbeats 40000000 in
theorem rm3 (l : Launch) (Z : State) (a0 : Array Value) (hw : ∀ d ∈ tables_1, d.before a0 Z = true) (ws : List Jvm.Cond) (a1 : Addr)  (h0 : Heap) (n0 : Nat) (Z0 : n0 ≤ h0.size)  :
    MetFree l (⟨"java/util/AbstractCollection", "<init>", "()V"⟩ : MethodName) (head1 (Jvm.Cond.code (⟨"java/util/AbstractCollection", "<init>", "()V"⟩ : MethodName) jdk_22_method_1_code 1 none :: ws) ({ frames := 1, cells := 0, slots := 0, locals := 12 } : Room)) (fun a U => a = #[(.ref a1)] ∧ Z.Warmed39 U.vm ∧ U.heap = h0) (fun _ _ _ _ _ => True) (fun _ U o U' => ∃ v L, o = .returned v ∧ Q_rm3 Z a1  h0 n0 v U'.heap L ∧ FrameEnd U o U' L ({ frames := 1, cells := 0, slots := 0, locals := 12 } : Room).cells ({ frames := 1, cells := 0, slots := 0, locals := 12 } : Room).slots) := by
  refine MetFree.of_bodySF (plainFor_of_name pn_0) hisR ?_
  intro p e s m args below meth c s₁ Bd hml0 hP hK
  obtain ⟨rfl, hZ, hh⟩ := hP
  have hx := Bd.exec
  have hby := Bd.bytes
  have hml : c.maxLocals = 1 := hml0
  have hown : s.vm.findClass "java/util/AbstractCollection" = some m.cls := findClass_of_methodNamed Bd.named
  have hnm := (name_of_methodNamed Bd.named Bd.method).1
  have X0 : Stand p l e ({ frames := 1, cells := 0, slots := 0, locals := 12 } : Room) s m #[(.ref a1)] below meth c s₁ [] 0 0 := Stand.of_body Bd
  have e0 : s₁.heap = h0 := by rw [← hh, Bd.state]; rfl
  have N0 := Fr.nil n0
  have pre0 : ∀ t, Steps p.tables e below (s₁.setTop (mkF m 0 #[.val (.ref a1)] [])) t → Steps p.tables e below (s₁.setTop (entryFrame m #[(.ref a1)] 1)) t := fun t k => castTop (ef_rm3 m a1) k
  have R0 : ∀ t, Steps p.tables e below (s₁.setTop (mkF m 0 #[.val (.ref a1)] [])) t → Steps p.tables e below (s₁.setTop (mkF m 0 #[.val (.ref a1)] [])) t := fun _ k => k
  have R1 : ∀ t, Steps p.tables e below (s₁.setTop (mkF m 1 #[.val (.ref a1)] [(.ref a1)])) t → Steps p.tables e below (s₁.setTop (mkF m 0 #[.val (.ref a1)] [])) t := by
    intro t k
    refine R0 t ?_
    refine XS.aloadN X0.here hx rfl (hb hby d3_0) rfl rfl ?_
    exact k
  obtain ⟨T2, X2, e2, st2⟩ := initO X0 hx hZ hown (hw _ (List.mem_of_getElem? (i := 31) rfl)) (hw _ (List.mem_of_getElem? (i := 32) rfl)) (hw _ (List.mem_of_getElem? (i := 33) rfl)) e0 (g := (mkF m 1 #[.val (.ref a1)] [(.ref a1)])) rfl (by rw [hml]; rfl) rfl (hb hby d3_1) (by decide) (W := 0) (by show 2 * 0 + _ ≤ _; exact Nat.le_of_eq rfl) (by decide)
  have R3 : ∀ t, Steps p.tables e below (T2.setTop (mkF m 4 #[.val (.ref a1)] [])) t → Steps p.tables e below (s₁.setTop (mkF m 0 #[.val (.ref a1)] [])) t := fun t k => R1 t (st2 _ k)
  obtain ⟨fs, hr, hrun, hended, hW, hsame⟩ := X2.leave (v := none) (fun _ => rfl)
  refine ⟨_, _, pre0 _ (R3 _ (X2.returnOut hx Bd.returns (hb hby d3_4) hr)), hrun, hended, _, _, rfl, ?_, ⟨_, rfl⟩, hW, hsame.mono (by decide) (by decide)⟩
  show Q_rm3 Z a1  h0 n0 _ T2.heap _
  rw [e2]
  exact ⟨rfl, N0, rfl⟩
theorem d2_0 : decode jdk_39_method_1_code 0 = .ok (.aload_n 0, 1) := by decide +kernel
theorem d2_1 : decode jdk_39_method_1_code 1 = .ok (.invokespecial 1, 3) := by decide +kernel
theorem d2_4 : decode jdk_39_method_1_code 4 = .ok (.aload_n 0, 1) := by decide +kernel
theorem d2_5 : decode jdk_39_method_1_code 5 = .ok (.iconst 0, 1) := by decide +kernel
theorem d2_6 : decode jdk_39_method_1_code 6 = .ok (.putfield 7, 3) := by decide +kernel
theorem d2_9 : decode jdk_39_method_1_code 9 = .ok (.return_, 1) := by decide +kernel
theorem pn_1 : plainName "java/util/AbstractList" = true := by first | (simp [plainName, overriddenIn]; done) | decide +kernel
theorem pd_0 : parseMethodDescriptor "()V" = some ⟨[], none⟩ := by decide +kernel
theorem ef_rm2 (m : MethodId) (x0 : Addr) : entryFrame m #[(.ref x0)] 1 = mkF m 0 #[.val (.ref x0)] [] := by first | (simp [entryFrame, mkF, argsToLocals, Value.category]; done) | rfl
def Q_rm2 (Z : State) (a1 : Addr) (u1 : Value) (u2 : Value) (h0 : Heap) (n0 : Nat) (v : Option Value) (h : Heap) (L : List Loc) : Prop := v = none ∧ Fr n0 L ∧ Keep h0 h [a1] ∧ Fld Z h a1 "java/util/AbstractList" "modCount" "I" (.int (0 : Int32)) ∧ Fld Z h a1 "java/util/ArrayList" "elementData" "[Ljava/lang/Object;" u2
set_option maxRecDepth 65536 in
set_option maxHeartbeats 40000000 in
theorem rm2 (l : Launch) (Z : State) (a0 : Array Value) (hw : ∀ d ∈ tables_1, d.before a0 Z = true) (ws : List Jvm.Cond) (a1 : Addr) (u1 : Value) (u2 : Value) (h0 : Heap) (n0 : Nat) (Z0 : n0 ≤ h0.size) (E_0 : Exa Z h0 a1 "java/util/ArrayList") (F_01 : Fld Z h0 a1 "java/util/AbstractList" "modCount" "I" u1) (F_02 : Fld Z h0 a1 "java/util/ArrayList" "elementData" "[Ljava/lang/Object;" u2) (n_a1 : n0 ≤ a1) :
    MetFree l (⟨"java/util/AbstractList", "<init>", "()V"⟩ : MethodName) (head1 (Jvm.Cond.code (⟨"java/util/AbstractList", "<init>", "()V"⟩ : MethodName) jdk_39_method_1_code 1 none :: ws) ({ frames := 2, cells := 0, slots := 0, locals := 24 } : Room)) (fun a U => a = #[(.ref a1)] ∧ Z.Warmed39 U.vm ∧ U.heap = h0) (fun _ _ _ _ _ => True) (fun _ U o U' => ∃ v L, o = .returned v ∧ Q_rm2 Z a1 u1 u2 h0 n0 v U'.heap L ∧ FrameEnd U o U' L ({ frames := 2, cells := 0, slots := 0, locals := 24 } : Room).cells ({ frames := 2, cells := 0, slots := 0, locals := 24 } : Room).slots) := by
  refine MetFree.of_bodySF (plainFor_of_name pn_1) hisR ?_
  intro p e s m args below meth c s₁ Bd hml0 hP hK
  obtain ⟨rfl, hZ, hh⟩ := hP
  have hx := Bd.exec
  have hby := Bd.bytes
  have hml : c.maxLocals = 1 := hml0
  have hown : s.vm.findClass "java/util/AbstractList" = some m.cls := findClass_of_methodNamed Bd.named
  have hnm := (name_of_methodNamed Bd.named Bd.method).1
  have X0 : Stand p l e ({ frames := 2, cells := 0, slots := 0, locals := 24 } : Room) s m #[(.ref a1)] below meth c s₁ [] 0 0 := Stand.of_body Bd
  have e0 : s₁.heap = h0 := by rw [← hh, Bd.state]; rfl
  have N0 := Fr.nil n0
  have pre0 : ∀ t, Steps p.tables e below (s₁.setTop (mkF m 0 #[.val (.ref a1)] [])) t → Steps p.tables e below (s₁.setTop (entryFrame m #[(.ref a1)] 1)) t := fun t k => castTop (ef_rm2 m a1) k
  have R0 : ∀ t, Steps p.tables e below (s₁.setTop (mkF m 0 #[.val (.ref a1)] [])) t → Steps p.tables e below (s₁.setTop (mkF m 0 #[.val (.ref a1)] [])) t := fun _ k => k
  have R4 : ∀ t, Steps p.tables e below (s₁.setTop (mkF m 1 #[.val (.ref a1)] [(.ref a1)])) t → Steps p.tables e below (s₁.setTop (mkF m 0 #[.val (.ref a1)] [])) t := by
    intro t k
    refine R0 t ?_
    refine XS.aloadN X0.here hx rfl (hb hby d2_0) rfl rfl ?_
    exact k
  obtain ⟨_, _, ⟨T5, L5, k5, n5⟩, -, X5, ⟨Lc5, hQ5, l5, y5, z5⟩, st5⟩ := X0.specialBack hx (y := (⟨"java/util/AbstractCollection", "<init>", "()V"⟩ : MethodName)) rfl hown (mvT hZ (hw _ (List.mem_of_getElem? (i := 25) rfl))) (mvT hZ (hw _ (List.mem_of_getElem? (i := 26) rfl))) (mvT hZ (hw _ (List.mem_of_getElem? (i := 30) rfl))) (by decide) (backOf (W := 0) (rm3 l Z a0 hw [] a1  h0 n0 Z0 ) hZ (hw _ (List.mem_of_getElem? (i := 30) rfl)) (hw _ (List.mem_of_getElem? (i := 29) rfl)) (by decide) (by decide)) (g := (mkF m 1 #[.val (.ref a1)] [(.ref a1)])) rfl (by rw [hml]; rfl) (Steps.refl _) (a := a1) (argsL := []) (rest := []) (lenOf pd_0 rfl) rfl (by show 2 * 0 + _ ≤ _; exact Nat.le_of_eq rfl) (hb hby d2_1) (fun _ _ => ⟨rfl, e0, (by decide : 0 + 0 ≤ _), (by decide : 0 + 0 ≤ _)⟩)
  dsimp only [Pt.U, Pt.locs, Pt.cells, Pt.slots] at X5 l5 y5 z5 st5 hQ5
  subst l5 y5 z5
  obtain ⟨rfl, M5, e5⟩ := hQ5
  have N5 := Fr.app N0 M5
  have R6 : ∀ t, Steps p.tables e below (T5.setTop (mkF m 4 #[.val (.ref a1)] [])) t → Steps p.tables e below (s₁.setTop (mkF m 0 #[.val (.ref a1)] [])) t := fun t k => R4 t (st5.trans k)
  have R7 : ∀ t, Steps p.tables e below (T5.setTop (mkF m 6 #[.val (.ref a1)] [(.int (0 : Int32)), (.ref a1)])) t → Steps p.tables e below (s₁.setTop (mkF m 0 #[.val (.ref a1)] [])) t := by
    intro t k
    refine R6 t ?_
    refine XS.aloadN X5.here hx rfl (hb hby d2_4) rfl rfl ?_
    refine XS.iconst X5.here hx rfl (hb hby d2_5) ?_
    exact k
  obtain ⟨T8, h8, X8, e8, W8, st8⟩ := putF X5 hx hZ hown (host := "") (Or.inl (hw _ (List.mem_of_getElem? (i := 34) rfl))) Via.refl e5 F_01 E_0 (Or.inl (hw _ (List.mem_of_getElem? (i := 35) rfl))) (hw _ (List.mem_of_getElem? (i := 14) rfl)) (ty := .int) (by decide) rfl rfl (g := (mkF m 6 #[.val (.ref a1)] [(.int (0 : Int32)), (.ref a1)])) rfl rfl (hb hby d2_6)
  have N8 := Fr.snoc X8 N5 n_a1
  have Z8 : n0 ≤ h8.size := Nat.le_trans Z0 (Keep.of_wr W8).1
  have K8 : Keep h0 h8 [a1] := (Keep.refl h0 [a1]).wr W8 (Or.inl (List.mem_of_getElem? (i := 0) rfl))
  have E_9 : Exa Z h8 a1 "java/util/ArrayList" := E_0.wr W8
  have F_10 : Fld Z h8 a1 "java/util/AbstractList" "modCount" "I" (.int (0 : Int32)) := F_01.same W8
  have F_11 : Fld Z h8 a1 "java/util/ArrayList" "elementData" "[Ljava/lang/Object;" u2 := F_02.other W8 (Or.inr (slot_ne (Or.inl (hw _ (List.mem_of_getElem? (i := 38) rfl))) (Or.inl (hw _ (List.mem_of_getElem? (i := 35) rfl))) (by decide) (t := (.array (.object "java/lang/Object"))) (t' := .int) (by decide) (by decide)))
  have R12 : ∀ t, Steps p.tables e below (T8.setTop (mkF m 9 #[.val (.ref a1)] [])) t → Steps p.tables e below (s₁.setTop (mkF m 0 #[.val (.ref a1)] [])) t := fun t k => R7 t (st8 _ k)
  obtain ⟨fs, hr, hrun, hended, hW, hsame⟩ := X8.leave (v := none) (fun _ => rfl)
  refine ⟨_, _, pre0 _ (R12 _ (X8.returnOut hx Bd.returns (hb hby d2_9) hr)), hrun, hended, _, _, rfl, ?_, ⟨_, rfl⟩, hW, hsame.mono (by decide) (by decide)⟩
  show Q_rm2 Z a1 u1 u2 h0 n0 _ T8.heap _
  rw [e8]
  exact ⟨rfl, N8, K8, F_10, F_11⟩
theorem d1_0 : decode jdk_38_method_2_code 0 = .ok (.aload_n 0, 1) := by decide +kernel
theorem d1_1 : decode jdk_38_method_2_code 1 = .ok (.invokespecial 1, 3) := by decide +kernel
theorem d1_4 : decode jdk_38_method_2_code 4 = .ok (.aload_n 0, 1) := by decide +kernel
theorem d1_5 : decode jdk_38_method_2_code 5 = .ok (.getstatic 39, 3) := by decide +kernel
theorem d1_8 : decode jdk_38_method_2_code 8 = .ok (.putfield 9, 3) := by decide +kernel
theorem d1_11 : decode jdk_38_method_2_code 11 = .ok (.return_, 1) := by decide +kernel
theorem pn_2 : plainName "java/util/ArrayList" = true := by first | (simp [plainName, overriddenIn]; done) | decide +kernel
theorem ef_rm1 (m : MethodId) (x0 : Addr) : entryFrame m #[(.ref x0)] 1 = mkF m 0 #[.val (.ref x0)] [] := by first | (simp [entryFrame, mkF, argsToLocals, Value.category]; done) | rfl
def Q_rm1 (Z : State) (a1 : Addr) (u1 : Value) (u2 : Value) (dc : Value) (h0 : Heap) (n0 : Nat) (v : Option Value) (h : Heap) (L : List Loc) : Prop := v = none ∧ Fr n0 L ∧ Keep h0 h [a1] ∧ Fld Z h a1 "java/util/AbstractList" "modCount" "I" (.int (0 : Int32)) ∧ Fld Z h a1 "java/util/ArrayList" "elementData" "[Ljava/lang/Object;" dc
set_option maxRecDepth 65536 in
set_option maxHeartbeats 40000000 in
theorem rm1 (l : Launch) (Z : State) (a0 : Array Value) (hw : ∀ d ∈ tables_1, d.before a0 Z = true) (ws : List Jvm.Cond) (a1 : Addr) (u1 : Value) (u2 : Value) (dc : Value) (h0 : Heap) (n0 : Nat) (Z0 : n0 ≤ h0.size) (E_0 : Exa Z h0 a1 "java/util/ArrayList") (F_01 : Fld Z h0 a1 "java/util/AbstractList" "modCount" "I" u1) (F_02 : Fld Z h0 a1 "java/util/ArrayList" "elementData" "[Ljava/lang/Object;" u2) (n_a1 : n0 ≤ a1) (S_0 : Sta Z h0 "java/util/ArrayList" "DEFAULTCAPACITY_EMPTY_ELEMENTDATA" "[Ljava/lang/Object;" dc) (hdc : fits (.array (.object "java/lang/Object")) dc = true) :
    MetFree l (⟨"java/util/ArrayList", "<init>", "()V"⟩ : MethodName) (head1 (Jvm.Cond.code (⟨"java/util/ArrayList", "<init>", "()V"⟩ : MethodName) jdk_38_method_2_code 1 none :: ws) ({ frames := 3, cells := 0, slots := 0, locals := 36 } : Room)) (fun a U => a = #[(.ref a1)] ∧ Z.Warmed39 U.vm ∧ U.heap = h0) (fun _ _ _ _ _ => True) (fun _ U o U' => ∃ v L, o = .returned v ∧ Q_rm1 Z a1 u1 u2 dc h0 n0 v U'.heap L ∧ FrameEnd U o U' L ({ frames := 3, cells := 0, slots := 0, locals := 36 } : Room).cells ({ frames := 3, cells := 0, slots := 0, locals := 36 } : Room).slots) := by
  refine MetFree.of_bodySF (plainFor_of_name pn_2) hisR ?_
  intro p e s m args below meth c s₁ Bd hml0 hP hK
  obtain ⟨rfl, hZ, hh⟩ := hP
  have hx := Bd.exec
  have hby := Bd.bytes
  have hml : c.maxLocals = 1 := hml0
  have hown : s.vm.findClass "java/util/ArrayList" = some m.cls := findClass_of_methodNamed Bd.named
  have hnm := (name_of_methodNamed Bd.named Bd.method).1
  have X0 : Stand p l e ({ frames := 3, cells := 0, slots := 0, locals := 36 } : Room) s m #[(.ref a1)] below meth c s₁ [] 0 0 := Stand.of_body Bd
  have e0 : s₁.heap = h0 := by rw [← hh, Bd.state]; rfl
  have N0 := Fr.nil n0
  have pre0 : ∀ t, Steps p.tables e below (s₁.setTop (mkF m 0 #[.val (.ref a1)] [])) t → Steps p.tables e below (s₁.setTop (entryFrame m #[(.ref a1)] 1)) t := fun t k => castTop (ef_rm1 m a1) k
  have R0 : ∀ t, Steps p.tables e below (s₁.setTop (mkF m 0 #[.val (.ref a1)] [])) t → Steps p.tables e below (s₁.setTop (mkF m 0 #[.val (.ref a1)] [])) t := fun _ k => k
  have R13 : ∀ t, Steps p.tables e below (s₁.setTop (mkF m 1 #[.val (.ref a1)] [(.ref a1)])) t → Steps p.tables e below (s₁.setTop (mkF m 0 #[.val (.ref a1)] [])) t := by
    intro t k
    refine R0 t ?_
    refine XS.aloadN X0.here hx rfl (hb hby d1_0) rfl rfl ?_
    exact k
  obtain ⟨_, _, ⟨T14, L14, k14, n14⟩, -, X14, ⟨Lc14, hQ14, l14, y14, z14⟩, st14⟩ := X0.specialBack hx (y := (⟨"java/util/AbstractList", "<init>", "()V"⟩ : MethodName)) rfl hown (mvT hZ (hw _ (List.mem_of_getElem? (i := 19) rfl))) (mvT hZ (hw _ (List.mem_of_getElem? (i := 20) rfl))) (mvT hZ (hw _ (List.mem_of_getElem? (i := 24) rfl))) (by decide) (backOf (W := 0) (rm2 l Z a0 hw [] a1 u1 u2 h0 n0 Z0 E_0 F_01 F_02 n_a1) hZ (hw _ (List.mem_of_getElem? (i := 24) rfl)) (hw _ (List.mem_of_getElem? (i := 23) rfl)) (by decide) (by decide)) (g := (mkF m 1 #[.val (.ref a1)] [(.ref a1)])) rfl (by rw [hml]; rfl) (Steps.refl _) (a := a1) (argsL := []) (rest := []) (lenOf pd_0 rfl) rfl (by show 2 * 0 + _ ≤ _; exact Nat.le_of_eq rfl) (hb hby d1_1) (fun _ _ => ⟨rfl, e0, (by decide : 0 + 0 ≤ _), (by decide : 0 + 0 ≤ _)⟩)
  dsimp only [Pt.U, Pt.locs, Pt.cells, Pt.slots] at X14 l14 y14 z14 st14 hQ14
  subst l14 y14 z14
  obtain ⟨rfl, M14, J14, Fm14, Fe14⟩ := hQ14
  have Z14 : n0 ≤ T14.heap.size := Nat.le_trans Z0 J14.1
  have K14 : Keep h0 T14.heap [a1] := (Keep.refl h0 [a1]).trans J14 (allS (Or.inl (List.mem_of_getElem? (i := 0) rfl)) all0)
  have E_15 : Exa Z T14.heap a1 "java/util/ArrayList" := E_0.keep J14
  have S_16 : Sta Z T14.heap "java/util/ArrayList" "DEFAULTCAPACITY_EMPTY_ELEMENTDATA" "[Ljava/lang/Object;" dc := own_sta_keep S_0 J14 (allS (own_exa_st E_0) all0)
  have N14 := Fr.app N0 M14
  have R17 : ∀ t, Steps p.tables e below (T14.setTop (mkF m 4 #[.val (.ref a1)] [])) t → Steps p.tables e below (s₁.setTop (mkF m 0 #[.val (.ref a1)] [])) t := fun t k => R13 t (st14.trans k)
  have R18 : ∀ t, Steps p.tables e below (T14.setTop (mkF m 5 #[.val (.ref a1)] [(.ref a1)])) t → Steps p.tables e below (s₁.setTop (mkF m 0 #[.val (.ref a1)] [])) t := by
    intro t k
    refine R17 t ?_
    refine XS.aloadN X14.here hx rfl (hb hby d1_4) rfl rfl ?_
    exact k
  obtain ⟨T19, X19, e19, st19⟩ := getS2 X14 hx hZ hown (host := "") (Or.inl (hw _ (List.mem_of_getElem? (i := 36) rfl))) Via.refl rfl S_16 (g := (mkF m 5 #[.val (.ref a1)] [(.ref a1)])) rfl (hb hby d1_5)
  have R20 : ∀ t, Steps p.tables e below (T19.setTop (mkF m 8 #[.val (.ref a1)] [dc, (.ref a1)])) t → Steps p.tables e below (s₁.setTop (mkF m 0 #[.val (.ref a1)] [])) t := fun t k => R18 t (st19 _ k)
  obtain ⟨T21, h21, X21, e21, W21, st21⟩ := putF X19 hx hZ hown (host := "") (Or.inl (hw _ (List.mem_of_getElem? (i := 37) rfl))) Via.refl e19 Fe14 E_15 (Or.inl (hw _ (List.mem_of_getElem? (i := 38) rfl))) (hw _ (List.mem_of_getElem? (i := 14) rfl)) (ty := (.array (.object "java/lang/Object"))) (by decide) rfl hdc (g := (mkF m 8 #[.val (.ref a1)] [dc, (.ref a1)])) rfl rfl (hb hby d1_8)
  have N21 := Fr.snoc X21 N14 n_a1
  have Z21 : n0 ≤ h21.size := Nat.le_trans Z14 (Keep.of_wr W21).1
  have K21 : Keep h0 h21 [a1] := K14.wr W21 (Or.inl (List.mem_of_getElem? (i := 0) rfl))
  have E_22 : Exa Z h21 a1 "java/util/ArrayList" := E_15.wr W21
  have S_23 : Sta Z h21 "java/util/ArrayList" "DEFAULTCAPACITY_EMPTY_ELEMENTDATA" "[Ljava/lang/Object;" dc := S_16.wr W21
  have F_24 : Fld Z h21 a1 "java/util/AbstractList" "modCount" "I" (.int (0 : Int32)) := Fm14.other W21 (Or.inr (slot_ne (Or.inl (hw _ (List.mem_of_getElem? (i := 35) rfl))) (Or.inl (hw _ (List.mem_of_getElem? (i := 38) rfl))) (by decide) (t := .int) (t' := (.array (.object "java/lang/Object"))) (by decide) (by decide)))
  have F_25 : Fld Z h21 a1 "java/util/ArrayList" "elementData" "[Ljava/lang/Object;" dc := Fe14.same W21
  have R26 : ∀ t, Steps p.tables e below (T21.setTop (mkF m 11 #[.val (.ref a1)] [])) t → Steps p.tables e below (s₁.setTop (mkF m 0 #[.val (.ref a1)] [])) t := fun t k => R20 t (st21 _ k)
  obtain ⟨fs, hr, hrun, hended, hW, hsame⟩ := X21.leave (v := none) (fun _ => rfl)
  refine ⟨_, _, pre0 _ (R26 _ (X21.returnOut hx Bd.returns (hb hby d1_11) hr)), hrun, hended, _, _, rfl, ?_, ⟨_, rfl⟩, hW, hsame.mono (by decide) (by decide)⟩
  show Q_rm1 Z a1 u1 u2 dc h0 n0 _ T21.heap _
  rw [e21]
  exact ⟨rfl, N21, K21, F_24, F_25⟩
theorem d5_0 : decode prog_2_method_1_code 0 = .ok (.aload_n 0, 1) := by decide +kernel
theorem d5_1 : decode prog_2_method_1_code 1 = .ok (.invokespecial 1, 3) := by decide +kernel
theorem d5_4 : decode prog_2_method_1_code 4 = .ok (.aload_n 0, 1) := by decide +kernel
theorem d5_5 : decode prog_2_method_1_code 5 = .ok (.lload_n 1, 1) := by decide +kernel
theorem d5_6 : decode prog_2_method_1_code 6 = .ok (.putfield 7, 3) := by decide +kernel
theorem d5_9 : decode prog_2_method_1_code 9 = .ok (.aload_n 0, 1) := by decide +kernel
theorem d5_10 : decode prog_2_method_1_code 10 = .ok (.aload_n 3, 1) := by decide +kernel
theorem d5_11 : decode prog_2_method_1_code 11 = .ok (.putfield 13, 3) := by decide +kernel
theorem d5_14 : decode prog_2_method_1_code 14 = .ok (.aload_n 0, 1) := by decide +kernel
theorem d5_15 : decode prog_2_method_1_code 15 = .ok (.aload 4, 2) := by decide +kernel
theorem d5_17 : decode prog_2_method_1_code 17 = .ok (.putfield 17, 3) := by decide +kernel
theorem d5_20 : decode prog_2_method_1_code 20 = .ok (.aload_n 0, 1) := by decide +kernel
theorem d5_21 : decode prog_2_method_1_code 21 = .ok (.aload 5, 2) := by decide +kernel
theorem d5_23 : decode prog_2_method_1_code 23 = .ok (.putfield 21, 3) := by decide +kernel
theorem d5_26 : decode prog_2_method_1_code 26 = .ok (.return_, 1) := by decide +kernel
theorem pn_3 : plainName "com/example/underwright/underwright/csv/CsvRecord" = true := by first | (simp [plainName, overriddenIn]; done) | decide +kernel
theorem ef_rm5 (m : MethodId) (x0 : Addr) (x1 : Int64) (x2 : Addr) (x3 : Addr) (x4 : Addr) : entryFrame m #[(.ref x0), (.long x1), (.ref x2), (.ref x3), (.ref x4)] 6 = mkF m 0 #[.val (.ref x0), .val (.long x1), .second, .val (.ref x2), .val (.ref x3), .val (.ref x4)] [] := by first | (simp [entryFrame, mkF, argsToLocals, Value.category]; done) | rfl
def Q_rm5 (Z : State) (a1 : Addr) (q1 : Int64) (a2 : Addr) (a3 : Addr) (a4 : Addr) (u1 : Value) (u2 : Value) (u3 : Value) (u4 : Value) (h0 : Heap) (n0 : Nat) (v : Option Value) (h : Heap) (L : List Loc) : Prop := v = none ∧ Fr n0 L ∧ Keep h0 h [a1] ∧ Fld Z h a1 "com/example/underwright/underwright/csv/CsvRecord" "ends" "[I" (.ref a3)
set_option maxRecDepth 65536 in
set_option maxHeartbeats 40000000 in
theorem rm5 (l : Launch) (Z : State) (a0 : Array Value) (hw : ∀ d ∈ tables_1, d.before a0 Z = true) (ws : List Jvm.Cond) (a1 : Addr) (q1 : Int64) (a2 : Addr) (a3 : Addr) (a4 : Addr) (u1 : Value) (u2 : Value) (u3 : Value) (u4 : Value) (h0 : Heap) (n0 : Nat) (Z0 : n0 ≤ h0.size) (E_0 : Exa Z h0 a1 "com/example/underwright/underwright/csv/CsvRecord") (F_00 : Fld Z h0 a1 "com/example/underwright/underwright/csv/CsvRecord" "line" "J" u1) (F_01 : Fld Z h0 a1 "com/example/underwright/underwright/csv/CsvRecord" "text" "Ljava/lang/String;" u2) (F_02 : Fld Z h0 a1 "com/example/underwright/underwright/csv/CsvRecord" "ends" "[I" u3) (F_03 : Fld Z h0 a1 "com/example/underwright/underwright/csv/CsvRecord" "malformed" "Ljava/util/List;" u4) (n_a1 : n0 ≤ a1) :
    MetFree l (⟨"com/example/underwright/underwright/csv/CsvRecord", "<init>", "(JLjava/lang/String;[ILjava/util/List;)V"⟩ : MethodName) (head1 (Jvm.Cond.code (⟨"com/example/underwright/underwright/csv/CsvRecord", "<init>", "(JLjava/lang/String;[ILjava/util/List;)V"⟩ : MethodName) prog_2_method_1_code 6 none :: ws) ({ frames := 1, cells := 0, slots := 0, locals := 12 } : Room)) (fun a U => a = #[(.ref a1), (.long q1), (.ref a2), (.ref a3), (.ref a4)] ∧ Z.Warmed39 U.vm ∧ U.heap = h0) (fun _ _ _ _ _ => True) (fun _ U o U' => ∃ v L, o = .returned v ∧ Q_rm5 Z a1 q1 a2 a3 a4 u1 u2 u3 u4 h0 n0 v U'.heap L ∧ FrameEnd U o U' L ({ frames := 1, cells := 0, slots := 0, locals := 12 } : Room).cells ({ frames := 1, cells := 0, slots := 0, locals := 12 } : Room).slots) := by
  refine MetFree.of_bodySF (plainFor_of_name pn_3) hisR ?_
  intro p e s m args below meth c s₁ Bd hml0 hP hK
  obtain ⟨rfl, hZ, hh⟩ := hP
  have hx := Bd.exec
  have hby := Bd.bytes
  have hml : c.maxLocals = 6 := hml0
  have hown : s.vm.findClass "com/example/underwright/underwright/csv/CsvRecord" = some m.cls := findClass_of_methodNamed Bd.named
  have hnm := (name_of_methodNamed Bd.named Bd.method).1
  have X0 : Stand p l e ({ frames := 1, cells := 0, slots := 0, locals := 12 } : Room) s m #[(.ref a1), (.long q1), (.ref a2), (.ref a3), (.ref a4)] below meth c s₁ [] 0 0 := Stand.of_body Bd
  have e0 : s₁.heap = h0 := by rw [← hh, Bd.state]; rfl
  have N0 := Fr.nil n0
  have pre0 : ∀ t, Steps p.tables e below (s₁.setTop (mkF m 0 #[.val (.ref a1), .val (.long q1), .second, .val (.ref a2), .val (.ref a3), .val (.ref a4)] [])) t → Steps p.tables e below (s₁.setTop (entryFrame m #[(.ref a1), (.long q1), (.ref a2), (.ref a3), (.ref a4)] 6)) t := fun t k => castTop (ef_rm5 m a1 q1 a2 a3 a4) k
  have R0 : ∀ t, Steps p.tables e below (s₁.setTop (mkF m 0 #[.val (.ref a1), .val (.long q1), .second, .val (.ref a2), .val (.ref a3), .val (.ref a4)] [])) t → Steps p.tables e below (s₁.setTop (mkF m 0 #[.val (.ref a1), .val (.long q1), .second, .val (.ref a2), .val (.ref a3), .val (.ref a4)] [])) t := fun _ k => k
  have R27 : ∀ t, Steps p.tables e below (s₁.setTop (mkF m 1 #[.val (.ref a1), .val (.long q1), .second, .val (.ref a2), .val (.ref a3), .val (.ref a4)] [(.ref a1)])) t → Steps p.tables e below (s₁.setTop (mkF m 0 #[.val (.ref a1), .val (.long q1), .second, .val (.ref a2), .val (.ref a3), .val (.ref a4)] [])) t := by
    intro t k
    refine R0 t ?_
    refine XS.aloadN X0.here hx rfl (hb hby d5_0) rfl rfl ?_
    exact k
  obtain ⟨T28, X28, e28, st28⟩ := initO X0 hx hZ hown (hw _ (List.mem_of_getElem? (i := 42) rfl)) (hw _ (List.mem_of_getElem? (i := 32) rfl)) (hw _ (List.mem_of_getElem? (i := 33) rfl)) e0 (g := (mkF m 1 #[.val (.ref a1), .val (.long q1), .second, .val (.ref a2), .val (.ref a3), .val (.ref a4)] [(.ref a1)])) rfl (by rw [hml]; rfl) rfl (hb hby d5_1) (by decide) (W := 0) (by show 2 * 0 + _ ≤ _; exact Nat.le_of_eq rfl) (by decide)
  have R29 : ∀ t, Steps p.tables e below (T28.setTop (mkF m 4 #[.val (.ref a1), .val (.long q1), .second, .val (.ref a2), .val (.ref a3), .val (.ref a4)] [])) t → Steps p.tables e below (s₁.setTop (mkF m 0 #[.val (.ref a1), .val (.long q1), .second, .val (.ref a2), .val (.ref a3), .val (.ref a4)] [])) t := fun t k => R27 t (st28 _ k)
  have R30 : ∀ t, Steps p.tables e below (T28.setTop (mkF m 6 #[.val (.ref a1), .val (.long q1), .second, .val (.ref a2), .val (.ref a3), .val (.ref a4)] [(.long q1), (.ref a1)])) t → Steps p.tables e below (s₁.setTop (mkF m 0 #[.val (.ref a1), .val (.long q1), .second, .val (.ref a2), .val (.ref a3), .val (.ref a4)] [])) t := by
    intro t k
    refine R29 t ?_
    refine XS.aloadN X28.here hx rfl (hb hby d5_4) rfl rfl ?_
    refine XS.lloadN X28.here hx rfl (hb hby d5_5) rfl ?_
    exact k
  obtain ⟨T31, h31, X31, e31, W31, st31⟩ := putF X28 hx hZ hown (host := "") (Or.inl (hw _ (List.mem_of_getElem? (i := 43) rfl))) Via.refl e28 F_00 E_0 (Or.inr ⟨(hw _ (List.mem_of_getElem? (i := 44) rfl)), rfl, hnm⟩) (hw _ (List.mem_of_getElem? (i := 3) rfl)) (ty := .long) (by decide) rfl rfl (g := (mkF m 6 #[.val (.ref a1), .val (.long q1), .second, .val (.ref a2), .val (.ref a3), .val (.ref a4)] [(.long q1), (.ref a1)])) rfl rfl (hb hby d5_6)
  have N31 := Fr.snoc X31 N0 n_a1
  have Z31 : n0 ≤ h31.size := Nat.le_trans Z0 (Keep.of_wr W31).1
  have K31 : Keep h0 h31 [a1] := (Keep.refl h0 [a1]).wr W31 (Or.inl (List.mem_of_getElem? (i := 0) rfl))
  have E_32 : Exa Z h31 a1 "com/example/underwright/underwright/csv/CsvRecord" := E_0.wr W31
  have F_33 : Fld Z h31 a1 "com/example/underwright/underwright/csv/CsvRecord" "line" "J" (.long q1) := F_00.same W31
  have F_34 : Fld Z h31 a1 "com/example/underwright/underwright/csv/CsvRecord" "text" "Ljava/lang/String;" u2 := F_01.other W31 (Or.inr (slot_ne (Or.inr (hw _ (List.mem_of_getElem? (i := 46) rfl))) (Or.inr (hw _ (List.mem_of_getElem? (i := 44) rfl))) (by decide) (t := (.object "java/lang/String")) (t' := .long) (by decide) (by decide)))
  have F_35 : Fld Z h31 a1 "com/example/underwright/underwright/csv/CsvRecord" "ends" "[I" u3 := F_02.other W31 (Or.inr (slot_ne (Or.inr (hw _ (List.mem_of_getElem? (i := 48) rfl))) (Or.inr (hw _ (List.mem_of_getElem? (i := 44) rfl))) (by decide) (t := (.array .int)) (t' := .long) (by decide) (by decide)))
  have F_36 : Fld Z h31 a1 "com/example/underwright/underwright/csv/CsvRecord" "malformed" "Ljava/util/List;" u4 := F_03.other W31 (Or.inr (slot_ne (Or.inr (hw _ (List.mem_of_getElem? (i := 50) rfl))) (Or.inr (hw _ (List.mem_of_getElem? (i := 44) rfl))) (by decide) (t := (.object "java/util/List")) (t' := .long) (by decide) (by decide)))
  have R37 : ∀ t, Steps p.tables e below (T31.setTop (mkF m 9 #[.val (.ref a1), .val (.long q1), .second, .val (.ref a2), .val (.ref a3), .val (.ref a4)] [])) t → Steps p.tables e below (s₁.setTop (mkF m 0 #[.val (.ref a1), .val (.long q1), .second, .val (.ref a2), .val (.ref a3), .val (.ref a4)] [])) t := fun t k => R30 t (st31 _ k)
  have R38 : ∀ t, Steps p.tables e below (T31.setTop (mkF m 11 #[.val (.ref a1), .val (.long q1), .second, .val (.ref a2), .val (.ref a3), .val (.ref a4)] [(.ref a2), (.ref a1)])) t → Steps p.tables e below (s₁.setTop (mkF m 0 #[.val (.ref a1), .val (.long q1), .second, .val (.ref a2), .val (.ref a3), .val (.ref a4)] [])) t := by
    intro t k
    refine R37 t ?_
    refine XS.aloadN X31.here hx rfl (hb hby d5_9) rfl rfl ?_
    refine XS.aloadN X31.here hx rfl (hb hby d5_10) rfl rfl ?_
    exact k
  obtain ⟨T39, h39, X39, e39, W39, st39⟩ := putF X31 hx hZ hown (host := "") (Or.inl (hw _ (List.mem_of_getElem? (i := 45) rfl))) Via.refl e31 F_34 E_32 (Or.inr ⟨(hw _ (List.mem_of_getElem? (i := 46) rfl)), rfl, hnm⟩) (hw _ (List.mem_of_getElem? (i := 3) rfl)) (ty := (.object "java/lang/String")) (by decide) rfl rfl (g := (mkF m 11 #[.val (.ref a1), .val (.long q1), .second, .val (.ref a2), .val (.ref a3), .val (.ref a4)] [(.ref a2), (.ref a1)])) rfl rfl (hb hby d5_11)
  have N39 := Fr.snoc X39 N31 n_a1
  have Z39 : n0 ≤ h39.size := Nat.le_trans Z31 (Keep.of_wr W39).1
  have K39 : Keep h0 h39 [a1] := K31.wr W39 (Or.inl (List.mem_of_getElem? (i := 0) rfl))
  have E_40 : Exa Z h39 a1 "com/example/underwright/underwright/csv/CsvRecord" := E_32.wr W39
  have F_41 : Fld Z h39 a1 "com/example/underwright/underwright/csv/CsvRecord" "line" "J" (.long q1) := F_33.other W39 (Or.inr (slot_ne (Or.inr (hw _ (List.mem_of_getElem? (i := 44) rfl))) (Or.inr (hw _ (List.mem_of_getElem? (i := 46) rfl))) (by decide) (t := .long) (t' := (.object "java/lang/String")) (by decide) (by decide)))
  have F_42 : Fld Z h39 a1 "com/example/underwright/underwright/csv/CsvRecord" "text" "Ljava/lang/String;" (.ref a2) := F_34.same W39
  have F_43 : Fld Z h39 a1 "com/example/underwright/underwright/csv/CsvRecord" "ends" "[I" u3 := F_35.other W39 (Or.inr (slot_ne (Or.inr (hw _ (List.mem_of_getElem? (i := 48) rfl))) (Or.inr (hw _ (List.mem_of_getElem? (i := 46) rfl))) (by decide) (t := (.array .int)) (t' := (.object "java/lang/String")) (by decide) (by decide)))
  have F_44 : Fld Z h39 a1 "com/example/underwright/underwright/csv/CsvRecord" "malformed" "Ljava/util/List;" u4 := F_36.other W39 (Or.inr (slot_ne (Or.inr (hw _ (List.mem_of_getElem? (i := 50) rfl))) (Or.inr (hw _ (List.mem_of_getElem? (i := 46) rfl))) (by decide) (t := (.object "java/util/List")) (t' := (.object "java/lang/String")) (by decide) (by decide)))
  have R45 : ∀ t, Steps p.tables e below (T39.setTop (mkF m 14 #[.val (.ref a1), .val (.long q1), .second, .val (.ref a2), .val (.ref a3), .val (.ref a4)] [])) t → Steps p.tables e below (s₁.setTop (mkF m 0 #[.val (.ref a1), .val (.long q1), .second, .val (.ref a2), .val (.ref a3), .val (.ref a4)] [])) t := fun t k => R38 t (st39 _ k)
  have R46 : ∀ t, Steps p.tables e below (T39.setTop (mkF m 17 #[.val (.ref a1), .val (.long q1), .second, .val (.ref a2), .val (.ref a3), .val (.ref a4)] [(.ref a3), (.ref a1)])) t → Steps p.tables e below (s₁.setTop (mkF m 0 #[.val (.ref a1), .val (.long q1), .second, .val (.ref a2), .val (.ref a3), .val (.ref a4)] [])) t := by
    intro t k
    refine R45 t ?_
    refine XS.aloadN X39.here hx rfl (hb hby d5_14) rfl rfl ?_
    refine XS.aload X39.here hx rfl (hb hby d5_15) rfl rfl ?_
    exact k
  obtain ⟨T47, h47, X47, e47, W47, st47⟩ := putF X39 hx hZ hown (host := "") (Or.inl (hw _ (List.mem_of_getElem? (i := 47) rfl))) Via.refl e39 F_43 E_40 (Or.inr ⟨(hw _ (List.mem_of_getElem? (i := 48) rfl)), rfl, hnm⟩) (hw _ (List.mem_of_getElem? (i := 3) rfl)) (ty := (.array .int)) (by decide) rfl rfl (g := (mkF m 17 #[.val (.ref a1), .val (.long q1), .second, .val (.ref a2), .val (.ref a3), .val (.ref a4)] [(.ref a3), (.ref a1)])) rfl rfl (hb hby d5_17)
  have N47 := Fr.snoc X47 N39 n_a1
  have Z47 : n0 ≤ h47.size := Nat.le_trans Z39 (Keep.of_wr W47).1
  have K47 : Keep h0 h47 [a1] := K39.wr W47 (Or.inl (List.mem_of_getElem? (i := 0) rfl))
  have E_48 : Exa Z h47 a1 "com/example/underwright/underwright/csv/CsvRecord" := E_40.wr W47
  have F_49 : Fld Z h47 a1 "com/example/underwright/underwright/csv/CsvRecord" "line" "J" (.long q1) := F_41.other W47 (Or.inr (slot_ne (Or.inr (hw _ (List.mem_of_getElem? (i := 44) rfl))) (Or.inr (hw _ (List.mem_of_getElem? (i := 48) rfl))) (by decide) (t := .long) (t' := (.array .int)) (by decide) (by decide)))
  have F_50 : Fld Z h47 a1 "com/example/underwright/underwright/csv/CsvRecord" "text" "Ljava/lang/String;" (.ref a2) := F_42.other W47 (Or.inr (slot_ne (Or.inr (hw _ (List.mem_of_getElem? (i := 46) rfl))) (Or.inr (hw _ (List.mem_of_getElem? (i := 48) rfl))) (by decide) (t := (.object "java/lang/String")) (t' := (.array .int)) (by decide) (by decide)))
  have F_51 : Fld Z h47 a1 "com/example/underwright/underwright/csv/CsvRecord" "ends" "[I" (.ref a3) := F_43.same W47
  have F_52 : Fld Z h47 a1 "com/example/underwright/underwright/csv/CsvRecord" "malformed" "Ljava/util/List;" u4 := F_44.other W47 (Or.inr (slot_ne (Or.inr (hw _ (List.mem_of_getElem? (i := 50) rfl))) (Or.inr (hw _ (List.mem_of_getElem? (i := 48) rfl))) (by decide) (t := (.object "java/util/List")) (t' := (.array .int)) (by decide) (by decide)))
  have R53 : ∀ t, Steps p.tables e below (T47.setTop (mkF m 20 #[.val (.ref a1), .val (.long q1), .second, .val (.ref a2), .val (.ref a3), .val (.ref a4)] [])) t → Steps p.tables e below (s₁.setTop (mkF m 0 #[.val (.ref a1), .val (.long q1), .second, .val (.ref a2), .val (.ref a3), .val (.ref a4)] [])) t := fun t k => R46 t (st47 _ k)
  have R54 : ∀ t, Steps p.tables e below (T47.setTop (mkF m 23 #[.val (.ref a1), .val (.long q1), .second, .val (.ref a2), .val (.ref a3), .val (.ref a4)] [(.ref a4), (.ref a1)])) t → Steps p.tables e below (s₁.setTop (mkF m 0 #[.val (.ref a1), .val (.long q1), .second, .val (.ref a2), .val (.ref a3), .val (.ref a4)] [])) t := by
    intro t k
    refine R53 t ?_
    refine XS.aloadN X47.here hx rfl (hb hby d5_20) rfl rfl ?_
    refine XS.aload X47.here hx rfl (hb hby d5_21) rfl rfl ?_
    exact k
  obtain ⟨T55, h55, X55, e55, W55, st55⟩ := putF X47 hx hZ hown (host := "") (Or.inl (hw _ (List.mem_of_getElem? (i := 49) rfl))) Via.refl e47 F_52 E_48 (Or.inr ⟨(hw _ (List.mem_of_getElem? (i := 50) rfl)), rfl, hnm⟩) (hw _ (List.mem_of_getElem? (i := 3) rfl)) (ty := (.object "java/util/List")) (by decide) rfl rfl (g := (mkF m 23 #[.val (.ref a1), .val (.long q1), .second, .val (.ref a2), .val (.ref a3), .val (.ref a4)] [(.ref a4), (.ref a1)])) rfl rfl (hb hby d5_23)
  have N55 := Fr.snoc X55 N47 n_a1
  have Z55 : n0 ≤ h55.size := Nat.le_trans Z47 (Keep.of_wr W55).1
  have K55 : Keep h0 h55 [a1] := K47.wr W55 (Or.inl (List.mem_of_getElem? (i := 0) rfl))
  have E_56 : Exa Z h55 a1 "com/example/underwright/underwright/csv/CsvRecord" := E_48.wr W55
  have F_57 : Fld Z h55 a1 "com/example/underwright/underwright/csv/CsvRecord" "line" "J" (.long q1) := F_49.other W55 (Or.inr (slot_ne (Or.inr (hw _ (List.mem_of_getElem? (i := 44) rfl))) (Or.inr (hw _ (List.mem_of_getElem? (i := 50) rfl))) (by decide) (t := .long) (t' := (.object "java/util/List")) (by decide) (by decide)))
  have F_58 : Fld Z h55 a1 "com/example/underwright/underwright/csv/CsvRecord" "text" "Ljava/lang/String;" (.ref a2) := F_50.other W55 (Or.inr (slot_ne (Or.inr (hw _ (List.mem_of_getElem? (i := 46) rfl))) (Or.inr (hw _ (List.mem_of_getElem? (i := 50) rfl))) (by decide) (t := (.object "java/lang/String")) (t' := (.object "java/util/List")) (by decide) (by decide)))
  have F_59 : Fld Z h55 a1 "com/example/underwright/underwright/csv/CsvRecord" "ends" "[I" (.ref a3) := F_51.other W55 (Or.inr (slot_ne (Or.inr (hw _ (List.mem_of_getElem? (i := 48) rfl))) (Or.inr (hw _ (List.mem_of_getElem? (i := 50) rfl))) (by decide) (t := (.array .int)) (t' := (.object "java/util/List")) (by decide) (by decide)))
  have F_60 : Fld Z h55 a1 "com/example/underwright/underwright/csv/CsvRecord" "malformed" "Ljava/util/List;" (.ref a4) := F_52.same W55
  have R61 : ∀ t, Steps p.tables e below (T55.setTop (mkF m 26 #[.val (.ref a1), .val (.long q1), .second, .val (.ref a2), .val (.ref a3), .val (.ref a4)] [])) t → Steps p.tables e below (s₁.setTop (mkF m 0 #[.val (.ref a1), .val (.long q1), .second, .val (.ref a2), .val (.ref a3), .val (.ref a4)] [])) t := fun t k => R54 t (st55 _ k)
  obtain ⟨fs, hr, hrun, hended, hW, hsame⟩ := X55.leave (v := none) (fun _ => rfl)
  refine ⟨_, _, pre0 _ (R61 _ (X55.returnOut hx Bd.returns (hb hby d5_26) hr)), hrun, hended, _, _, rfl, ?_, ⟨_, rfl⟩, hW, hsame.mono (by decide) (by decide)⟩
  show Q_rm5 Z a1 q1 a2 a3 a4 u1 u2 u3 u4 h0 n0 _ T55.heap _
  rw [e55]
  exact ⟨rfl, N55, K55, F_59⟩
theorem d6_0 : decode prog_2_method_8_code 0 = .ok (.iload_n 1, 1) := by decide +kernel
theorem d6_1 : decode prog_2_method_8_code 1 = .ok (.ifCond .ne 7, 3) := by decide +kernel
theorem d6_4 : decode prog_2_method_8_code 4 = .ok (.iconst 0, 1) := by decide +kernel
theorem d6_5 : decode prog_2_method_8_code 5 = .ok (.goto 13, 3) := by decide +kernel
theorem d6_18 : decode prog_2_method_8_code 18 = .ok (.ireturn, 1) := by decide +kernel
theorem ef_rm6z (m : MethodId) (x0 : Addr) (x1 : Int32) : entryFrame m #[(.ref x0), (.int x1)] 2 = mkF m 0 #[.val (.ref x0), .val (.int x1)] [] := by first | (simp [entryFrame, mkF, argsToLocals, Value.category]; done) | rfl
def Q_rm6z (Z : State) (a1 : Addr)  (h0 : Heap) (n0 : Nat) (v : Option Value) (h : Heap) (L : List Loc) : Prop := v = some (.int (0 : Int32)) ∧ Fr n0 L ∧ h = h0
set_option maxRecDepth 65536 in
set_option maxHeartbeats 40000000 in
theorem rm6z (l : Launch) (Z : State) (a0 : Array Value) (hw : ∀ d ∈ tables_1, d.before a0 Z = true) (ws : List Jvm.Cond) (a1 : Addr)  (h0 : Heap) (n0 : Nat) (Z0 : n0 ≤ h0.size)  :
    MetFree l (⟨"com/example/underwright/underwright/csv/CsvRecord", "start", "(I)I"⟩ : MethodName) (head1 (Jvm.Cond.code (⟨"com/example/underwright/underwright/csv/CsvRecord", "start", "(I)I"⟩ : MethodName) prog_2_method_8_code 2 (some .int) :: ws) ({ frames := 0, cells := 0, slots := 0, locals := 0 } : Room)) (fun a U => a = #[(.ref a1), (.int (0 : Int32))] ∧ Z.Warmed39 U.vm ∧ U.heap = h0) (fun _ _ _ _ _ => True) (fun _ U o U' => ∃ v L, o = .returned v ∧ Q_rm6z Z a1  h0 n0 v U'.heap L ∧ FrameEnd U o U' L ({ frames := 0, cells := 0, slots := 0, locals := 0 } : Room).cells ({ frames := 0, cells := 0, slots := 0, locals := 0 } : Room).slots) := by
  refine MetFree.of_bodySF (plainFor_of_name pn_3) hisR ?_
  intro p e s m args below meth c s₁ Bd hml0 hP hK
  obtain ⟨rfl, hZ, hh⟩ := hP
  have hx := Bd.exec
  have hby := Bd.bytes
  have hml : c.maxLocals = 2 := hml0
  have hown : s.vm.findClass "com/example/underwright/underwright/csv/CsvRecord" = some m.cls := findClass_of_methodNamed Bd.named
  have hnm := (name_of_methodNamed Bd.named Bd.method).1
  have X0 : Stand p l e ({ frames := 0, cells := 0, slots := 0, locals := 0 } : Room) s m #[(.ref a1), (.int (0 : Int32))] below meth c s₁ [] 0 0 := Stand.of_body Bd
  have e0 : s₁.heap = h0 := by rw [← hh, Bd.state]; rfl
  have N0 := Fr.nil n0
  have pre0 : ∀ t, Steps p.tables e below (s₁.setTop (mkF m 0 #[.val (.ref a1), .val (.int (0 : Int32))] [])) t → Steps p.tables e below (s₁.setTop (entryFrame m #[(.ref a1), (.int (0 : Int32))] 2)) t := fun t k => castTop (ef_rm6z m a1 (0 : Int32)) k
  have R0 : ∀ t, Steps p.tables e below (s₁.setTop (mkF m 0 #[.val (.ref a1), .val (.int (0 : Int32))] [])) t → Steps p.tables e below (s₁.setTop (mkF m 0 #[.val (.ref a1), .val (.int (0 : Int32))] [])) t := fun _ k => k
  have R62 : ∀ t, Steps p.tables e below (s₁.setTop (mkF m 1 #[.val (.ref a1), .val (.int (0 : Int32))] [(.int (0 : Int32))])) t → Steps p.tables e below (s₁.setTop (mkF m 0 #[.val (.ref a1), .val (.int (0 : Int32))] [])) t := by
    intro t k
    refine R0 t ?_
    refine XS.iloadN X0.here hx rfl (hb hby d6_0) rfl ?_
    exact k
  have R63 : ∀ t, Steps p.tables e below (s₁.setTop (mkF m 4 #[.val (.ref a1), .val (.int (0 : Int32))] [])) t → Steps p.tables e below (s₁.setTop (mkF m 0 #[.val (.ref a1), .val (.int (0 : Int32))] [])) t := by
    intro t k
    refine R62 t ?_
    refine XS.ifNo X0.here hx rfl (hb hby d6_1) rfl ((if0 _ _).trans (teq rfl).2) ?_
    exact k
  have R64 : ∀ t, Steps p.tables e below (s₁.setTop (mkF m 18 #[.val (.ref a1), .val (.int (0 : Int32))] [(.int (0 : Int32))])) t → Steps p.tables e below (s₁.setTop (mkF m 0 #[.val (.ref a1), .val (.int (0 : Int32))] [])) t := by
    intro t k
    refine R63 t ?_
    refine XS.iconst X0.here hx rfl (hb hby d6_4) ?_
    refine XS.goto X0.here hx rfl (pc0 := 5) (pc' := 18) rfl (hb hby d6_5) (by decide) (by decide) ?_
    exact k
  obtain ⟨fs, hr, hrun, hended, hW, hsame⟩ := X0.leave (v := some (.int (0 : Int32))) (fun h => by rw [Bd.returns] at h; cases h)
  refine ⟨_, _, pre0 _ (R64 _ (retI X0 hx Bd.returns (hb hby d6_18) hr)), hrun, hended, _, _, rfl, ?_, ⟨_, rfl⟩, hW, hsame.mono (by decide) (by decide)⟩
  show Q_rm6z Z a1  h0 n0 _ s₁.heap _
  rw [e0]
  exact ⟨rfl, N0, rfl⟩
theorem d6_8 : decode prog_2_method_8_code 8 = .ok (.aload_n 0, 1) := by decide +kernel
theorem d6_9 : decode prog_2_method_8_code 9 = .ok (.getfield 17, 3) := by decide +kernel
theorem d6_12 : decode prog_2_method_8_code 12 = .ok (.iload_n 1, 1) := by decide +kernel
theorem d6_13 : decode prog_2_method_8_code 13 = .ok (.iconst 1, 1) := by decide +kernel
theorem d6_14 : decode prog_2_method_8_code 14 = .ok (.isub, 1) := by decide +kernel
theorem d6_15 : decode prog_2_method_8_code 15 = .ok (.iaload, 1) := by decide +kernel
theorem d6_16 : decode prog_2_method_8_code 16 = .ok (.iconst 1, 1) := by decide +kernel
theorem d6_17 : decode prog_2_method_8_code 17 = .ok (.iadd, 1) := by decide +kernel
theorem ef_rm6n (m : MethodId) (x0 : Addr) (x1 : Int32) : entryFrame m #[(.ref x0), (.int x1)] 2 = mkF m 0 #[.val (.ref x0), .val (.int x1)] [] := by first | (simp [entryFrame, mkF, argsToLocals, Value.category]; done) | rfl
def Q_rm6n (Z : State) (a1 : Addr) (p1 : Int32) (ta : Addr) (k : ClassId) (vs : List Value) (r : Int32) (h0 : Heap) (n0 : Nat) (v : Option Value) (h : Heap) (L : List Loc) : Prop := v = some (.int (r + (1 : Int32))) ∧ Fr n0 L ∧ h = h0
set_option maxRecDepth 65536 in
set_option maxHeartbeats 40000000 in
theorem rm6n (l : Launch) (Z : State) (a0 : Array Value) (hw : ∀ d ∈ tables_1, d.before a0 Z = true) (ws : List Jvm.Cond) (a1 : Addr) (p1 : Int32) (ta : Addr) (k : ClassId) (vs : List Value) (r : Int32) (h0 : Heap) (n0 : Nat) (Z0 : n0 ≤ h0.size) (F_01 : Fld Z h0 a1 "com/example/underwright/underwright/csv/CsvRecord" "ends" "[I" (.ref ta)) (V_0 : Arv Z h0 ta k .int (3 : Int32) vs (.int (0 : Int32))) (hp : ¬ (p1 = (0 : Int32))) (hin : ¬ (p1 - (1 : Int32)) < 0 ∧ (p1 - (1 : Int32)) < (3 : Int32)) (hat : vs.getD (p1 - (1 : Int32)).toNatClampNeg (.int (0 : Int32)) = .int r) :
    MetFree l (⟨"com/example/underwright/underwright/csv/CsvRecord", "start", "(I)I"⟩ : MethodName) (head1 (Jvm.Cond.code (⟨"com/example/underwright/underwright/csv/CsvRecord", "start", "(I)I"⟩ : MethodName) prog_2_method_8_code 2 (some .int) :: ws) ({ frames := 0, cells := 0, slots := 0, locals := 0 } : Room)) (fun a U => a = #[(.ref a1), (.int p1)] ∧ Z.Warmed39 U.vm ∧ U.heap = h0) (fun _ _ _ _ _ => True) (fun _ U o U' => ∃ v L, o = .returned v ∧ Q_rm6n Z a1 p1 ta k vs r h0 n0 v U'.heap L ∧ FrameEnd U o U' L ({ frames := 0, cells := 0, slots := 0, locals := 0 } : Room).cells ({ frames := 0, cells := 0, slots := 0, locals := 0 } : Room).slots) := by
  refine MetFree.of_bodySF (plainFor_of_name pn_3) hisR ?_
  intro p e s m args below meth c s₁ Bd hml0 hP hK
  obtain ⟨rfl, hZ, hh⟩ := hP
  have hx := Bd.exec
  have hby := Bd.bytes
  have hml : c.maxLocals = 2 := hml0
  have hown : s.vm.findClass "com/example/underwright/underwright/csv/CsvRecord" = some m.cls := findClass_of_methodNamed Bd.named
  have hnm := (name_of_methodNamed Bd.named Bd.method).1
  have X0 : Stand p l e ({ frames := 0, cells := 0, slots := 0, locals := 0 } : Room) s m #[(.ref a1), (.int p1)] below meth c s₁ [] 0 0 := Stand.of_body Bd
  have e0 : s₁.heap = h0 := by rw [← hh, Bd.state]; rfl
  have N0 := Fr.nil n0
  have pre0 : ∀ t, Steps p.tables e below (s₁.setTop (mkF m 0 #[.val (.ref a1), .val (.int p1)] [])) t → Steps p.tables e below (s₁.setTop (entryFrame m #[(.ref a1), (.int p1)] 2)) t := fun t k => castTop (ef_rm6n m a1 p1) k
  have R0 : ∀ t, Steps p.tables e below (s₁.setTop (mkF m 0 #[.val (.ref a1), .val (.int p1)] [])) t → Steps p.tables e below (s₁.setTop (mkF m 0 #[.val (.ref a1), .val (.int p1)] [])) t := fun _ k => k
  have R65 : ∀ t, Steps p.tables e below (s₁.setTop (mkF m 1 #[.val (.ref a1), .val (.int p1)] [(.int p1)])) t → Steps p.tables e below (s₁.setTop (mkF m 0 #[.val (.ref a1), .val (.int p1)] [])) t := by
    intro t k
    refine R0 t ?_
    refine XS.iloadN X0.here hx rfl (hb hby d6_0) rfl ?_
    exact k
  have R66 : ∀ t, Steps p.tables e below (s₁.setTop (mkF m 8 #[.val (.ref a1), .val (.int p1)] [])) t → Steps p.tables e below (s₁.setTop (mkF m 0 #[.val (.ref a1), .val (.int p1)] [])) t := by
    intro t k
    refine R65 t ?_
    refine XS.ifYes X0.here hx rfl (pc0 := 1) (pc' := 8) rfl (hb hby d6_1) rfl ((if0 _ _).trans (feq hp).2) (by decide) (by decide) ?_
    exact k
  have R67 : ∀ t, Steps p.tables e below (s₁.setTop (mkF m 9 #[.val (.ref a1), .val (.int p1)] [(.ref a1)])) t → Steps p.tables e below (s₁.setTop (mkF m 0 #[.val (.ref a1), .val (.int p1)] [])) t := by
    intro t k
    refine R66 t ?_
    refine XS.aloadN X0.here hx rfl (hb hby d6_8) rfl rfl ?_
    exact k
  obtain ⟨T68, X68, e68, st68⟩ := getF X0 hx hZ hown (host := "") (Or.inl (hw _ (List.mem_of_getElem? (i := 47) rfl))) Via.refl e0 F_01 (g := (mkF m 9 #[.val (.ref a1), .val (.int p1)] [(.ref a1)])) rfl rfl (hb hby d6_9)
  have R69 : ∀ t, Steps p.tables e below (T68.setTop (mkF m 12 #[.val (.ref a1), .val (.int p1)] [(.ref ta)])) t → Steps p.tables e below (s₁.setTop (mkF m 0 #[.val (.ref a1), .val (.int p1)] [])) t := fun t k => R67 t (st68 _ k)
  have R70 : ∀ t, Steps p.tables e below (T68.setTop (mkF m 15 #[.val (.ref a1), .val (.int p1)] [(.int (p1 - (1 : Int32))), (.ref ta)])) t → Steps p.tables e below (s₁.setTop (mkF m 0 #[.val (.ref a1), .val (.int p1)] [])) t := by
    intro t k
    refine R69 t ?_
    refine XS.iloadN X68.here hx rfl (hb hby d6_12) rfl ?_
    refine XS.iconst X68.here hx rfl (hb hby d6_13) ?_
    refine XS.isub X68.here hx rfl (hb hby d6_14) rfl ?_
    exact k
  obtain ⟨cl71, Ar71, q71, Sz71, Nn71, Hh71, G71⟩ := id V_0
  have hin71 : ¬ ((p1 - (1 : Int32)) < 0 ∨ cl71.slots.size ≤ ((p1 - (1 : Int32))).toNatClampNeg) := inb_of Sz71 hin
  have R72 : ∀ t, Steps p.tables e below (T68.setTop (mkF m 16 #[.val (.ref a1), .val (.int p1)] [(.int r)])) t → Steps p.tables e below (s₁.setTop (mkF m 0 #[.val (.ref a1), .val (.int p1)] [])) t := by
    intro t k
    refine R70 t ?_
    refine X68.iaload hx (j := (p1 - (1 : Int32))) (v := (.int r)) (by rw [e68]; exact Ar71.1) (State.isArrayOf_alike hZ.alike Ar71.2.1) Ar71.2.2 hin71 (Hh71.at hin71 hat) (g := (mkF m 15 #[.val (.ref a1), .val (.int p1)] [(.int (p1 - (1 : Int32))), (.ref ta)])) rfl rfl (hb hby d6_15) _ ?_
    exact k
  have R73 : ∀ t, Steps p.tables e below (T68.setTop (mkF m 18 #[.val (.ref a1), .val (.int p1)] [(.int (r + (1 : Int32)))])) t → Steps p.tables e below (s₁.setTop (mkF m 0 #[.val (.ref a1), .val (.int p1)] [])) t := by
    intro t k
    refine R72 t ?_
    refine XS.iconst X68.here hx rfl (hb hby d6_16) ?_
    refine XS.iadd X68.here hx rfl (hb hby d6_17) rfl ?_
    exact k
  obtain ⟨fs, hr, hrun, hended, hW, hsame⟩ := X68.leave (v := some (.int (r + (1 : Int32)))) (fun h => by rw [Bd.returns] at h; cases h)
  refine ⟨_, _, pre0 _ (R73 _ (retI X68 hx Bd.returns (hb hby d6_18) hr)), hrun, hended, _, _, rfl, ?_, ⟨_, rfl⟩, hW, hsame.mono (by decide) (by decide)⟩
  show Q_rm6n Z a1 p1 ta k vs r h0 n0 _ T68.heap _
  rw [e68]
  exact ⟨rfl, N0, rfl⟩
theorem d7_0 : decode prog_2_method_9_code 0 = .ok (.aload_n 0, 1) := by decide +kernel
theorem d7_1 : decode prog_2_method_9_code 1 = .ok (.getfield 17, 3) := by decide +kernel
theorem d7_4 : decode prog_2_method_9_code 4 = .ok (.iload_n 1, 1) := by decide +kernel
theorem d7_5 : decode prog_2_method_9_code 5 = .ok (.iaload, 1) := by decide +kernel
theorem d7_6 : decode prog_2_method_9_code 6 = .ok (.ireturn, 1) := by decide +kernel
theorem ef_rm7 (m : MethodId) (x0 : Addr) (x1 : Int32) : entryFrame m #[(.ref x0), (.int x1)] 2 = mkF m 0 #[.val (.ref x0), .val (.int x1)] [] := by first | (simp [entryFrame, mkF, argsToLocals, Value.category]; done) | rfl
def Q_rm7 (Z : State) (a1 : Addr) (p1 : Int32) (ta : Addr) (k : ClassId) (vs : List Value) (r : Int32) (h0 : Heap) (n0 : Nat) (v : Option Value) (h : Heap) (L : List Loc) : Prop := v = some (.int r) ∧ Fr n0 L ∧ h = h0
set_option maxRecDepth 65536 in
set_option maxHeartbeats 40000000 in
theorem rm7 (l : Launch) (Z : State) (a0 : Array Value) (hw : ∀ d ∈ tables_1, d.before a0 Z = true) (ws : List Jvm.Cond) (a1 : Addr) (p1 : Int32) (ta : Addr) (k : ClassId) (vs : List Value) (r : Int32) (h0 : Heap) (n0 : Nat) (Z0 : n0 ≤ h0.size) (F_01 : Fld Z h0 a1 "com/example/underwright/underwright/csv/CsvRecord" "ends" "[I" (.ref ta)) (V_0 : Arv Z h0 ta k .int (3 : Int32) vs (.int (0 : Int32))) (hin : ¬ p1 < 0 ∧ p1 < (3 : Int32)) (hat : vs.getD (p1).toNatClampNeg (.int (0 : Int32)) = .int r) :
    MetFree l (⟨"com/example/underwright/underwright/csv/CsvRecord", "end", "(I)I"⟩ : MethodName) (head1 (Jvm.Cond.code (⟨"com/example/underwright/underwright/csv/CsvRecord", "end", "(I)I"⟩ : MethodName) prog_2_method_9_code 2 (some .int) :: ws) ({ frames := 0, cells := 0, slots := 0, locals := 0 } : Room)) (fun a U => a = #[(.ref a1), (.int p1)] ∧ Z.Warmed39 U.vm ∧ U.heap = h0) (fun _ _ _ _ _ => True) (fun _ U o U' => ∃ v L, o = .returned v ∧ Q_rm7 Z a1 p1 ta k vs r h0 n0 v U'.heap L ∧ FrameEnd U o U' L ({ frames := 0, cells := 0, slots := 0, locals := 0 } : Room).cells ({ frames := 0, cells := 0, slots := 0, locals := 0 } : Room).slots) := by
  refine MetFree.of_bodySF (plainFor_of_name pn_3) hisR ?_
  intro p e s m args below meth c s₁ Bd hml0 hP hK
  obtain ⟨rfl, hZ, hh⟩ := hP
  have hx := Bd.exec
  have hby := Bd.bytes
  have hml : c.maxLocals = 2 := hml0
  have hown : s.vm.findClass "com/example/underwright/underwright/csv/CsvRecord" = some m.cls := findClass_of_methodNamed Bd.named
  have hnm := (name_of_methodNamed Bd.named Bd.method).1
  have X0 : Stand p l e ({ frames := 0, cells := 0, slots := 0, locals := 0 } : Room) s m #[(.ref a1), (.int p1)] below meth c s₁ [] 0 0 := Stand.of_body Bd
  have e0 : s₁.heap = h0 := by rw [← hh, Bd.state]; rfl
  have N0 := Fr.nil n0
  have pre0 : ∀ t, Steps p.tables e below (s₁.setTop (mkF m 0 #[.val (.ref a1), .val (.int p1)] [])) t → Steps p.tables e below (s₁.setTop (entryFrame m #[(.ref a1), (.int p1)] 2)) t := fun t k => castTop (ef_rm7 m a1 p1) k
  have R0 : ∀ t, Steps p.tables e below (s₁.setTop (mkF m 0 #[.val (.ref a1), .val (.int p1)] [])) t → Steps p.tables e below (s₁.setTop (mkF m 0 #[.val (.ref a1), .val (.int p1)] [])) t := fun _ k => k
  have R74 : ∀ t, Steps p.tables e below (s₁.setTop (mkF m 1 #[.val (.ref a1), .val (.int p1)] [(.ref a1)])) t → Steps p.tables e below (s₁.setTop (mkF m 0 #[.val (.ref a1), .val (.int p1)] [])) t := by
    intro t k
    refine R0 t ?_
    refine XS.aloadN X0.here hx rfl (hb hby d7_0) rfl rfl ?_
    exact k
  obtain ⟨T75, X75, e75, st75⟩ := getF X0 hx hZ hown (host := "") (Or.inl (hw _ (List.mem_of_getElem? (i := 47) rfl))) Via.refl e0 F_01 (g := (mkF m 1 #[.val (.ref a1), .val (.int p1)] [(.ref a1)])) rfl rfl (hb hby d7_1)
  have R76 : ∀ t, Steps p.tables e below (T75.setTop (mkF m 4 #[.val (.ref a1), .val (.int p1)] [(.ref ta)])) t → Steps p.tables e below (s₁.setTop (mkF m 0 #[.val (.ref a1), .val (.int p1)] [])) t := fun t k => R74 t (st75 _ k)
  have R77 : ∀ t, Steps p.tables e below (T75.setTop (mkF m 5 #[.val (.ref a1), .val (.int p1)] [(.int p1), (.ref ta)])) t → Steps p.tables e below (s₁.setTop (mkF m 0 #[.val (.ref a1), .val (.int p1)] [])) t := by
    intro t k
    refine R76 t ?_
    refine XS.iloadN X75.here hx rfl (hb hby d7_4) rfl ?_
    exact k
  obtain ⟨cl78, Ar78, q78, Sz78, Nn78, Hh78, G78⟩ := id V_0
  have hin78 : ¬ (p1 < 0 ∨ cl78.slots.size ≤ (p1).toNatClampNeg) := inb_of Sz78 hin
  have R79 : ∀ t, Steps p.tables e below (T75.setTop (mkF m 6 #[.val (.ref a1), .val (.int p1)] [(.int r)])) t → Steps p.tables e below (s₁.setTop (mkF m 0 #[.val (.ref a1), .val (.int p1)] [])) t := by
    intro t k
    refine R77 t ?_
    refine X75.iaload hx (j := p1) (v := (.int r)) (by rw [e75]; exact Ar78.1) (State.isArrayOf_alike hZ.alike Ar78.2.1) Ar78.2.2 hin78 (Hh78.at hin78 hat) (g := (mkF m 5 #[.val (.ref a1), .val (.int p1)] [(.int p1), (.ref ta)])) rfl rfl (hb hby d7_5) _ ?_
    exact k
  obtain ⟨fs, hr, hrun, hended, hW, hsame⟩ := X75.leave (v := some (.int r)) (fun h => by rw [Bd.returns] at h; cases h)
  refine ⟨_, _, pre0 _ (R79 _ (retI X75 hx Bd.returns (hb hby d7_6) hr)), hrun, hended, _, _, rfl, ?_, ⟨_, rfl⟩, hW, hsame.mono (by decide) (by decide)⟩
  show Q_rm7 Z a1 p1 ta k vs r h0 n0 _ T75.heap _
  rw [e75]
  exact ⟨rfl, N0, rfl⟩
theorem own_wS {Z : State} {a0 : Array Value} (hw : ∀ d ∈ tables_1, d.before a0 Z = true) : ∀ a ∈ Bundle.stringAtoms, a.before a0 Z = true := by
  intro d hd
  simp only [Bundle.stringAtoms, List.mem_cons, List.not_mem_nil, or_false] at hd
  rcases hd with rfl | rfl | rfl | rfl | rfl | rfl | rfl
  · exact hw _ (List.mem_of_getElem? (i := 6) rfl)
  · exact hw _ (List.mem_of_getElem? (i := 7) rfl)
  · exact hw _ (List.mem_of_getElem? (i := 8) rfl)
  · exact hw _ (List.mem_of_getElem? (i := 9) rfl)
  · exact hw _ (List.mem_of_getElem? (i := 10) rfl)
  · exact hw _ (List.mem_of_getElem? (i := 11) rfl)
  · exact hw _ (List.mem_of_getElem? (i := 12) rfl)
theorem pn_4 : plainName "com/example/underwright/underwright/csv/CsvRecordStartPinLaw" = true := by first | (simp [plainName, overriddenIn]; done) | decide +kernel
theorem pd_1 : parseMethodDescriptor "(JLjava/lang/String;[ILjava/util/List;)V" = some ⟨[.long, (.object "java/lang/String"), (.array .int), (.object "java/util/List")], none⟩ := by decide +kernel
theorem pd_2 : parseMethodDescriptor "(I)I" = some ⟨[.int], some .int⟩ := by decide +kernel
theorem ef_rm0 (m : MethodId) (x0 : Int32) (x1 : Int32) (x2 : Int32) (x3 : Int64) : entryFrame m #[(.int x0), (.int x1), (.int x2), (.long x3)] maxLocals = mkF m 0 #[.val (.int x0), .val (.int x1), .val (.int x2), .val (.long x3), .second, .unset, .unset, .unset, .unset, .unset, .unset, .unset, .unset, .unset, .unset, .unset] [] := by first | (simp [entryFrame, mkF, argsToLocals, Value.category, maxLocals]; done) | rfl
def Q_rm0 (Z : State) (p1 : Int32) (p2 : Int32) (p3 : Int32) (q4 : Int64) (dc : Value) (h0 : Heap) (n0 : Nat) (v : Option Value) (h : Heap) (L : List Loc) : Prop := v = some (.int (1 : Int32)) ∧ Fr n0 L
set_option maxRecDepth 65536 in
set_option maxHeartbeats 40000000 in
theorem rm0 (l : Launch) (Z : State) (a0 : Array Value) (hw : ∀ d ∈ tables_1, d.before a0 Z = true) (ws : List Jvm.Cond) (p1 : Int32) (p2 : Int32) (p3 : Int32) (q4 : Int64) (dc : Value) (h0 : Heap) (n0 : Nat) (Z0 : n0 ≤ h0.size) (S_0 : Sta Z h0 "java/util/ArrayList" "DEFAULTCAPACITY_EMPTY_ELEMENTDATA" "[Ljava/lang/Object;" dc) (hdc : fits (.array (.object "java/lang/Object")) dc = true) :
    MetFree l x (head1 (Jvm.Cond.code x code maxLocals ret :: ws) room_1) (fun a U => a = #[(.int p1), (.int p2), (.int p3), (.long q4)] ∧ Z.Warmed39 U.vm ∧ U.heap = h0) (fun _ _ _ _ _ => True) (fun _ U o U' => ∃ v L, o = .returned v ∧ Q_rm0 Z p1 p2 p3 q4 dc h0 n0 v U'.heap L ∧ ReturnedEndW U o U' L room_1.cells room_1.slots) := by
  refine MetFree.of_bodySF (plainFor_of_name pn_4) hisR ?_
  intro p e s m args below meth c s₁ Bd hml0 hP hK
  obtain ⟨rfl, hZ, hh⟩ := hP
  have hx := Bd.exec
  have hby := Bd.bytes
  have hml : c.maxLocals = 16 := hml0
  have hown : s.vm.findClass "com/example/underwright/underwright/csv/CsvRecordStartPinLaw" = some m.cls := findClass_of_methodNamed Bd.named
  have hnm := (name_of_methodNamed Bd.named Bd.method).1
  have X0 : Stand p l e room_1 s m #[(.int p1), (.int p2), (.int p3), (.long q4)] below meth c s₁ [] 0 0 := Stand.of_body Bd
  have e0 : s₁.heap = h0 := by rw [← hh, Bd.state]; rfl
  have N0 := Fr.nil n0
  have pre0 : ∀ t, Steps p.tables e below (s₁.setTop (mkF m 0 #[.val (.int p1), .val (.int p2), .val (.int p3), .val (.long q4), .second, .unset, .unset, .unset, .unset, .unset, .unset, .unset, .unset, .unset, .unset, .unset] [])) t → Steps p.tables e below (s₁.setTop (entryFrame m #[(.int p1), (.int p2), (.int p3), (.long q4)] maxLocals)) t := fun t k => castTop (ef_rm0 m p1 p2 p3 q4) k
  have R0 : ∀ t, Steps p.tables e below (s₁.setTop (mkF m 0 #[.val (.int p1), .val (.int p2), .val (.int p3), .val (.long q4), .second, .unset, .unset, .unset, .unset, .unset, .unset, .unset, .unset, .unset, .unset, .unset] [])) t → Steps p.tables e below (s₁.setTop (mkF m 0 #[.val (.int p1), .val (.int p2), .val (.int p3), .val (.long q4), .second, .unset, .unset, .unset, .unset, .unset, .unset, .unset, .unset, .unset, .unset, .unset] [])) t := fun _ k => k
  have R80 : ∀ t, Steps p.tables e below (s₁.setTop (mkF m 41 #[.val (.int p1), .val (.int p2), .val (.int p3), .val (.long q4), .second, .val (.int (p1 &&& (536870911 : Int32))), .val (.int (p2 &&& (536870911 : Int32))), .val (.int (p3 &&& (536870911 : Int32))), .val (.int (p1 &&& (536870911 : Int32))), .val (.int (((p1 &&& (536870911 : Int32)) + (1 : Int32)) + (p2 &&& (536870911 : Int32)))), .val (.int (((((p1 &&& (536870911 : Int32)) + (1 : Int32)) + (p2 &&& (536870911 : Int32))) + (1 : Int32)) + (p3 &&& (536870911 : Int32)))), .unset, .unset, .unset, .unset, .unset] [(.int (3 : Int32))])) t → Steps p.tables e below (s₁.setTop (mkF m 0 #[.val (.int p1), .val (.int p2), .val (.int p3), .val (.long q4), .second, .unset, .unset, .unset, .unset, .unset, .unset, .unset, .unset, .unset, .unset, .unset] [])) t := by
    intro t k
    refine R0 t ?_
    refine XS.iloadN X0.here hx rfl (hb hby at_0) rfl ?_
    refine X0.ldcInt hx hown (mvT hZ (hw _ (List.mem_of_getElem? (i := 0) rfl))) (g := (mkF m 1 #[.val (.int p1), .val (.int p2), .val (.int p3), .val (.long q4), .second, .unset, .unset, .unset, .unset, .unset, .unset, .unset, .unset, .unset, .unset, .unset] [(.int p1)])) rfl (hb hby at_1) _ ?_
    refine XS.iand X0.here hx rfl (hb hby at_3) rfl ?_
    refine XS.istore X0.here hx rfl (hb hby at_4) rfl (l' := #[.val (.int p1), .val (.int p2), .val (.int p3), .val (.long q4), .second, .val (.int (p1 &&& (536870911 : Int32))), .unset, .unset, .unset, .unset, .unset, .unset, .unset, .unset, .unset, .unset]) rfl ?_
    refine XS.iloadN X0.here hx rfl (hb hby at_6) rfl ?_
    refine X0.ldcInt hx hown (mvT hZ (hw _ (List.mem_of_getElem? (i := 0) rfl))) (g := (mkF m 7 #[.val (.int p1), .val (.int p2), .val (.int p3), .val (.long q4), .second, .val (.int (p1 &&& (536870911 : Int32))), .unset, .unset, .unset, .unset, .unset, .unset, .unset, .unset, .unset, .unset] [(.int p2)])) rfl (hb hby at_7) _ ?_
    refine XS.iand X0.here hx rfl (hb hby at_9) rfl ?_
    refine XS.istore X0.here hx rfl (hb hby at_10) rfl (l' := #[.val (.int p1), .val (.int p2), .val (.int p3), .val (.long q4), .second, .val (.int (p1 &&& (536870911 : Int32))), .val (.int (p2 &&& (536870911 : Int32))), .unset, .unset, .unset, .unset, .unset, .unset, .unset, .unset, .unset]) rfl ?_
    refine XS.iloadN X0.here hx rfl (hb hby at_12) rfl ?_
    refine X0.ldcInt hx hown (mvT hZ (hw _ (List.mem_of_getElem? (i := 0) rfl))) (g := (mkF m 13 #[.val (.int p1), .val (.int p2), .val (.int p3), .val (.long q4), .second, .val (.int (p1 &&& (536870911 : Int32))), .val (.int (p2 &&& (536870911 : Int32))), .unset, .unset, .unset, .unset, .unset, .unset, .unset, .unset, .unset] [(.int p3)])) rfl (hb hby at_13) _ ?_
    refine XS.iand X0.here hx rfl (hb hby at_15) rfl ?_
    refine XS.istore X0.here hx rfl (hb hby at_16) rfl (l' := #[.val (.int p1), .val (.int p2), .val (.int p3), .val (.long q4), .second, .val (.int (p1 &&& (536870911 : Int32))), .val (.int (p2 &&& (536870911 : Int32))), .val (.int (p3 &&& (536870911 : Int32))), .unset, .unset, .unset, .unset, .unset, .unset, .unset, .unset]) rfl ?_
    refine XS.iload X0.here hx rfl (hb hby at_18) rfl ?_
    refine XS.istore X0.here hx rfl (hb hby at_20) rfl (l' := #[.val (.int p1), .val (.int p2), .val (.int p3), .val (.long q4), .second, .val (.int (p1 &&& (536870911 : Int32))), .val (.int (p2 &&& (536870911 : Int32))), .val (.int (p3 &&& (536870911 : Int32))), .val (.int (p1 &&& (536870911 : Int32))), .unset, .unset, .unset, .unset, .unset, .unset, .unset]) rfl ?_
    refine XS.iload X0.here hx rfl (hb hby at_22) rfl ?_
    refine XS.iconst X0.here hx rfl (hb hby at_24) ?_
    refine XS.iadd X0.here hx rfl (hb hby at_25) rfl ?_
    refine XS.iload X0.here hx rfl (hb hby at_26) rfl ?_
    refine XS.iadd X0.here hx rfl (hb hby at_28) rfl ?_
    refine XS.istore X0.here hx rfl (hb hby at_29) rfl (l' := #[.val (.int p1), .val (.int p2), .val (.int p3), .val (.long q4), .second, .val (.int (p1 &&& (536870911 : Int32))), .val (.int (p2 &&& (536870911 : Int32))), .val (.int (p3 &&& (536870911 : Int32))), .val (.int (p1 &&& (536870911 : Int32))), .val (.int (((p1 &&& (536870911 : Int32)) + (1 : Int32)) + (p2 &&& (536870911 : Int32)))), .unset, .unset, .unset, .unset, .unset, .unset]) rfl ?_
    refine XS.iload X0.here hx rfl (hb hby at_31) rfl ?_
    refine XS.iconst X0.here hx rfl (hb hby at_33) ?_
    refine XS.iadd X0.here hx rfl (hb hby at_34) rfl ?_
    refine XS.iload X0.here hx rfl (hb hby at_35) rfl ?_
    refine XS.iadd X0.here hx rfl (hb hby at_37) rfl ?_
    refine XS.istore X0.here hx rfl (hb hby at_38) rfl (l' := #[.val (.int p1), .val (.int p2), .val (.int p3), .val (.long q4), .second, .val (.int (p1 &&& (536870911 : Int32))), .val (.int (p2 &&& (536870911 : Int32))), .val (.int (p3 &&& (536870911 : Int32))), .val (.int (p1 &&& (536870911 : Int32))), .val (.int (((p1 &&& (536870911 : Int32)) + (1 : Int32)) + (p2 &&& (536870911 : Int32)))), .val (.int (((((p1 &&& (536870911 : Int32)) + (1 : Int32)) + (p2 &&& (536870911 : Int32))) + (1 : Int32)) + (p3 &&& (536870911 : Int32)))), .unset, .unset, .unset, .unset, .unset]) rfl ?_
    refine XS.iconst X0.here hx rfl (hb hby at_40) ?_
    exact k
  obtain ⟨T81, h81, c81, X81, e81, x81, B81, st81⟩ := newP X0 hx hZ (hw _ (List.mem_of_getElem? (i := 1) rfl)) e0 (g := (mkF m 41 #[.val (.int p1), .val (.int p2), .val (.int p3), .val (.long q4), .second, .val (.int (p1 &&& (536870911 : Int32))), .val (.int (p2 &&& (536870911 : Int32))), .val (.int (p3 &&& (536870911 : Int32))), .val (.int (p1 &&& (536870911 : Int32))), .val (.int (((p1 &&& (536870911 : Int32)) + (1 : Int32)) + (p2 &&& (536870911 : Int32)))), .val (.int (((((p1 &&& (536870911 : Int32)) + (1 : Int32)) + (p2 &&& (536870911 : Int32))) + (1 : Int32)) + (p3 &&& (536870911 : Int32)))), .unset, .unset, .unset, .unset, .unset] [(.int (3 : Int32))])) rfl (hb hby at_41) rfl (by decide) (cap := 3) (by decide) (by decide) (by decide) (by decide)
  obtain ⟨t1, g_t1⟩ : ∃ z, z = h0.size := ⟨_, rfl⟩
  rw [← g_t1] at B81 st81
  have n_t1 : n0 ≤ t1 := Nat.le_trans Z0 (Nat.le_of_eq g_t1.symm)
  have Z81 : n0 ≤ h81.size := Nat.le_trans Z0 x81.1
  have S_82 : Sta Z h81 "java/util/ArrayList" "DEFAULTCAPACITY_EMPTY_ELEMENTDATA" "[Ljava/lang/Object;" dc := S_0.ext x81
  have V81 : Arv Z h81 t1 c81 .int (3 : Int32) [(.int (0 : Int32)), (.int (0 : Int32)), (.int (0 : Int32))] (.int (0 : Int32)) := (Arv.new B81 (by decide)).pad (pad_rep [] (.int (0 : Int32)) 3)
  have R83 : ∀ t, Steps p.tables e below (T81.setTop (mkF m 43 #[.val (.int p1), .val (.int p2), .val (.int p3), .val (.long q4), .second, .val (.int (p1 &&& (536870911 : Int32))), .val (.int (p2 &&& (536870911 : Int32))), .val (.int (p3 &&& (536870911 : Int32))), .val (.int (p1 &&& (536870911 : Int32))), .val (.int (((p1 &&& (536870911 : Int32)) + (1 : Int32)) + (p2 &&& (536870911 : Int32)))), .val (.int (((((p1 &&& (536870911 : Int32)) + (1 : Int32)) + (p2 &&& (536870911 : Int32))) + (1 : Int32)) + (p3 &&& (536870911 : Int32)))), .unset, .unset, .unset, .unset, .unset] [(.ref t1)])) t → Steps p.tables e below (s₁.setTop (mkF m 0 #[.val (.int p1), .val (.int p2), .val (.int p3), .val (.long q4), .second, .unset, .unset, .unset, .unset, .unset, .unset, .unset, .unset, .unset, .unset, .unset] [])) t := fun t k => R80 t (st81 _ k)
  have R84 : ∀ t, Steps p.tables e below (T81.setTop (mkF m 47 #[.val (.int p1), .val (.int p2), .val (.int p3), .val (.long q4), .second, .val (.int (p1 &&& (536870911 : Int32))), .val (.int (p2 &&& (536870911 : Int32))), .val (.int (p3 &&& (536870911 : Int32))), .val (.int (p1 &&& (536870911 : Int32))), .val (.int (((p1 &&& (536870911 : Int32)) + (1 : Int32)) + (p2 &&& (536870911 : Int32)))), .val (.int (((((p1 &&& (536870911 : Int32)) + (1 : Int32)) + (p2 &&& (536870911 : Int32))) + (1 : Int32)) + (p3 &&& (536870911 : Int32)))), .unset, .unset, .unset, .unset, .unset] [(.int (p1 &&& (536870911 : Int32))), (.int (0 : Int32)), (.ref t1), (.ref t1)])) t → Steps p.tables e below (s₁.setTop (mkF m 0 #[.val (.int p1), .val (.int p2), .val (.int p3), .val (.long q4), .second, .unset, .unset, .unset, .unset, .unset, .unset, .unset, .unset, .unset, .unset, .unset] [])) t := by
    intro t k
    refine R83 t ?_
    refine XS.dup X81.here hx rfl (hb hby at_43) rfl rfl ?_
    refine XS.iconst X81.here hx rfl (hb hby at_44) ?_
    refine XS.iload X81.here hx rfl (hb hby at_45) rfl ?_
    exact k
  obtain ⟨cl85, Ar85, q85, Sz85, Nn85, Hh85, G85⟩ := V81
  have hin85 : ¬ ((0 : Int32) < 0 ∨ cl85.slots.size ≤ ((0 : Int32)).toNatClampNeg) := inb_of Sz85 ⟨by decide, by decide⟩
  obtain ⟨T85, h85, X85, e85, W85, st85⟩ := stI X81 hx hZ e81 Ar85 (j := (0 : Int32)) hin85 (g := (mkF m 47 #[.val (.int p1), .val (.int p2), .val (.int p3), .val (.long q4), .second, .val (.int (p1 &&& (536870911 : Int32))), .val (.int (p2 &&& (536870911 : Int32))), .val (.int (p3 &&& (536870911 : Int32))), .val (.int (p1 &&& (536870911 : Int32))), .val (.int (((p1 &&& (536870911 : Int32)) + (1 : Int32)) + (p2 &&& (536870911 : Int32)))), .val (.int (((((p1 &&& (536870911 : Int32)) + (1 : Int32)) + (p2 &&& (536870911 : Int32))) + (1 : Int32)) + (p3 &&& (536870911 : Int32)))), .unset, .unset, .unset, .unset, .unset] [(.int (p1 &&& (536870911 : Int32))), (.int (0 : Int32)), (.ref t1), (.ref t1)])) rfl rfl (hb hby at_47)
  have N85 := Fr.snoc X85 N0 n_t1
  have Z85 : n0 ≤ h85.size := Nat.le_trans Z81 (Keep.of_wr W85).1
  have S_86 : Sta Z h85 "java/util/ArrayList" "DEFAULTCAPACITY_EMPTY_ELEMENTDATA" "[Ljava/lang/Object;" dc := S_82.wr W85
  have V85 : Arv Z h85 t1 c81 .int (3 : Int32) [(.int (p1 &&& (536870911 : Int32))), (.int (0 : Int32)), (.int (0 : Int32))] (.int (0 : Int32)) := Arv.set Ar85 q85 Sz85 Nn85 Hh85 G85 rfl W85 0 rfl (Nat.le_of_ble_eq_true rfl)
  have R87 : ∀ t, Steps p.tables e below (T85.setTop (mkF m 48 #[.val (.int p1), .val (.int p2), .val (.int p3), .val (.long q4), .second, .val (.int (p1 &&& (536870911 : Int32))), .val (.int (p2 &&& (536870911 : Int32))), .val (.int (p3 &&& (536870911 : Int32))), .val (.int (p1 &&& (536870911 : Int32))), .val (.int (((p1 &&& (536870911 : Int32)) + (1 : Int32)) + (p2 &&& (536870911 : Int32)))), .val (.int (((((p1 &&& (536870911 : Int32)) + (1 : Int32)) + (p2 &&& (536870911 : Int32))) + (1 : Int32)) + (p3 &&& (536870911 : Int32)))), .unset, .unset, .unset, .unset, .unset] [(.ref t1)])) t → Steps p.tables e below (s₁.setTop (mkF m 0 #[.val (.int p1), .val (.int p2), .val (.int p3), .val (.long q4), .second, .unset, .unset, .unset, .unset, .unset, .unset, .unset, .unset, .unset, .unset, .unset] [])) t := fun t k => R84 t (st85 _ k)
  have R88 : ∀ t, Steps p.tables e below (T85.setTop (mkF m 52 #[.val (.int p1), .val (.int p2), .val (.int p3), .val (.long q4), .second, .val (.int (p1 &&& (536870911 : Int32))), .val (.int (p2 &&& (536870911 : Int32))), .val (.int (p3 &&& (536870911 : Int32))), .val (.int (p1 &&& (536870911 : Int32))), .val (.int (((p1 &&& (536870911 : Int32)) + (1 : Int32)) + (p2 &&& (536870911 : Int32)))), .val (.int (((((p1 &&& (536870911 : Int32)) + (1 : Int32)) + (p2 &&& (536870911 : Int32))) + (1 : Int32)) + (p3 &&& (536870911 : Int32)))), .unset, .unset, .unset, .unset, .unset] [(.int (((p1 &&& (536870911 : Int32)) + (1 : Int32)) + (p2 &&& (536870911 : Int32)))), (.int (1 : Int32)), (.ref t1), (.ref t1)])) t → Steps p.tables e below (s₁.setTop (mkF m 0 #[.val (.int p1), .val (.int p2), .val (.int p3), .val (.long q4), .second, .unset, .unset, .unset, .unset, .unset, .unset, .unset, .unset, .unset, .unset, .unset] [])) t := by
    intro t k
    refine R87 t ?_
    refine XS.dup X85.here hx rfl (hb hby at_48) rfl rfl ?_
    refine XS.iconst X85.here hx rfl (hb hby at_49) ?_
    refine XS.iload X85.here hx rfl (hb hby at_50) rfl ?_
    exact k
  obtain ⟨cl89, Ar89, q89, Sz89, Nn89, Hh89, G89⟩ := V85
  have hin89 : ¬ ((1 : Int32) < 0 ∨ cl89.slots.size ≤ ((1 : Int32)).toNatClampNeg) := inb_of Sz89 ⟨by decide, by decide⟩
  obtain ⟨T89, h89, X89, e89, W89, st89⟩ := stI X85 hx hZ e85 Ar89 (j := (1 : Int32)) hin89 (g := (mkF m 52 #[.val (.int p1), .val (.int p2), .val (.int p3), .val (.long q4), .second, .val (.int (p1 &&& (536870911 : Int32))), .val (.int (p2 &&& (536870911 : Int32))), .val (.int (p3 &&& (536870911 : Int32))), .val (.int (p1 &&& (536870911 : Int32))), .val (.int (((p1 &&& (536870911 : Int32)) + (1 : Int32)) + (p2 &&& (536870911 : Int32)))), .val (.int (((((p1 &&& (536870911 : Int32)) + (1 : Int32)) + (p2 &&& (536870911 : Int32))) + (1 : Int32)) + (p3 &&& (536870911 : Int32)))), .unset, .unset, .unset, .unset, .unset] [(.int (((p1 &&& (536870911 : Int32)) + (1 : Int32)) + (p2 &&& (536870911 : Int32)))), (.int (1 : Int32)), (.ref t1), (.ref t1)])) rfl rfl (hb hby at_52)
  have N89 := Fr.snoc X89 N85 n_t1
  have Z89 : n0 ≤ h89.size := Nat.le_trans Z85 (Keep.of_wr W89).1
  have S_90 : Sta Z h89 "java/util/ArrayList" "DEFAULTCAPACITY_EMPTY_ELEMENTDATA" "[Ljava/lang/Object;" dc := S_86.wr W89
  have V89 : Arv Z h89 t1 c81 .int (3 : Int32) [(.int (p1 &&& (536870911 : Int32))), (.int (((p1 &&& (536870911 : Int32)) + (1 : Int32)) + (p2 &&& (536870911 : Int32)))), (.int (0 : Int32))] (.int (0 : Int32)) := Arv.set Ar89 q89 Sz89 Nn89 Hh89 G89 rfl W89 1 rfl (Nat.le_of_ble_eq_true rfl)
  have R91 : ∀ t, Steps p.tables e below (T89.setTop (mkF m 53 #[.val (.int p1), .val (.int p2), .val (.int p3), .val (.long q4), .second, .val (.int (p1 &&& (536870911 : Int32))), .val (.int (p2 &&& (536870911 : Int32))), .val (.int (p3 &&& (536870911 : Int32))), .val (.int (p1 &&& (536870911 : Int32))), .val (.int (((p1 &&& (536870911 : Int32)) + (1 : Int32)) + (p2 &&& (536870911 : Int32)))), .val (.int (((((p1 &&& (536870911 : Int32)) + (1 : Int32)) + (p2 &&& (536870911 : Int32))) + (1 : Int32)) + (p3 &&& (536870911 : Int32)))), .unset, .unset, .unset, .unset, .unset] [(.ref t1)])) t → Steps p.tables e below (s₁.setTop (mkF m 0 #[.val (.int p1), .val (.int p2), .val (.int p3), .val (.long q4), .second, .unset, .unset, .unset, .unset, .unset, .unset, .unset, .unset, .unset, .unset, .unset] [])) t := fun t k => R88 t (st89 _ k)
  have R92 : ∀ t, Steps p.tables e below (T89.setTop (mkF m 57 #[.val (.int p1), .val (.int p2), .val (.int p3), .val (.long q4), .second, .val (.int (p1 &&& (536870911 : Int32))), .val (.int (p2 &&& (536870911 : Int32))), .val (.int (p3 &&& (536870911 : Int32))), .val (.int (p1 &&& (536870911 : Int32))), .val (.int (((p1 &&& (536870911 : Int32)) + (1 : Int32)) + (p2 &&& (536870911 : Int32)))), .val (.int (((((p1 &&& (536870911 : Int32)) + (1 : Int32)) + (p2 &&& (536870911 : Int32))) + (1 : Int32)) + (p3 &&& (536870911 : Int32)))), .unset, .unset, .unset, .unset, .unset] [(.int (((((p1 &&& (536870911 : Int32)) + (1 : Int32)) + (p2 &&& (536870911 : Int32))) + (1 : Int32)) + (p3 &&& (536870911 : Int32)))), (.int (2 : Int32)), (.ref t1), (.ref t1)])) t → Steps p.tables e below (s₁.setTop (mkF m 0 #[.val (.int p1), .val (.int p2), .val (.int p3), .val (.long q4), .second, .unset, .unset, .unset, .unset, .unset, .unset, .unset, .unset, .unset, .unset, .unset] [])) t := by
    intro t k
    refine R91 t ?_
    refine XS.dup X89.here hx rfl (hb hby at_53) rfl rfl ?_
    refine XS.iconst X89.here hx rfl (hb hby at_54) ?_
    refine XS.iload X89.here hx rfl (hb hby at_55) rfl ?_
    exact k
  obtain ⟨cl93, Ar93, q93, Sz93, Nn93, Hh93, G93⟩ := V89
  have hin93 : ¬ ((2 : Int32) < 0 ∨ cl93.slots.size ≤ ((2 : Int32)).toNatClampNeg) := inb_of Sz93 ⟨by decide, by decide⟩
  obtain ⟨T93, h93, X93, e93, W93, st93⟩ := stI X89 hx hZ e89 Ar93 (j := (2 : Int32)) hin93 (g := (mkF m 57 #[.val (.int p1), .val (.int p2), .val (.int p3), .val (.long q4), .second, .val (.int (p1 &&& (536870911 : Int32))), .val (.int (p2 &&& (536870911 : Int32))), .val (.int (p3 &&& (536870911 : Int32))), .val (.int (p1 &&& (536870911 : Int32))), .val (.int (((p1 &&& (536870911 : Int32)) + (1 : Int32)) + (p2 &&& (536870911 : Int32)))), .val (.int (((((p1 &&& (536870911 : Int32)) + (1 : Int32)) + (p2 &&& (536870911 : Int32))) + (1 : Int32)) + (p3 &&& (536870911 : Int32)))), .unset, .unset, .unset, .unset, .unset] [(.int (((((p1 &&& (536870911 : Int32)) + (1 : Int32)) + (p2 &&& (536870911 : Int32))) + (1 : Int32)) + (p3 &&& (536870911 : Int32)))), (.int (2 : Int32)), (.ref t1), (.ref t1)])) rfl rfl (hb hby at_57)
  have N93 := Fr.snoc X93 N89 n_t1
  have Z93 : n0 ≤ h93.size := Nat.le_trans Z89 (Keep.of_wr W93).1
  have S_94 : Sta Z h93 "java/util/ArrayList" "DEFAULTCAPACITY_EMPTY_ELEMENTDATA" "[Ljava/lang/Object;" dc := S_90.wr W93
  have V93 : Arv Z h93 t1 c81 .int (3 : Int32) [(.int (p1 &&& (536870911 : Int32))), (.int (((p1 &&& (536870911 : Int32)) + (1 : Int32)) + (p2 &&& (536870911 : Int32)))), (.int (((((p1 &&& (536870911 : Int32)) + (1 : Int32)) + (p2 &&& (536870911 : Int32))) + (1 : Int32)) + (p3 &&& (536870911 : Int32))))] (.int (0 : Int32)) := Arv.set Ar93 q93 Sz93 Nn93 Hh93 G93 rfl W93 2 rfl (Nat.le_of_ble_eq_true rfl)
  have R95 : ∀ t, Steps p.tables e below (T93.setTop (mkF m 58 #[.val (.int p1), .val (.int p2), .val (.int p3), .val (.long q4), .second, .val (.int (p1 &&& (536870911 : Int32))), .val (.int (p2 &&& (536870911 : Int32))), .val (.int (p3 &&& (536870911 : Int32))), .val (.int (p1 &&& (536870911 : Int32))), .val (.int (((p1 &&& (536870911 : Int32)) + (1 : Int32)) + (p2 &&& (536870911 : Int32)))), .val (.int (((((p1 &&& (536870911 : Int32)) + (1 : Int32)) + (p2 &&& (536870911 : Int32))) + (1 : Int32)) + (p3 &&& (536870911 : Int32)))), .unset, .unset, .unset, .unset, .unset] [(.ref t1)])) t → Steps p.tables e below (s₁.setTop (mkF m 0 #[.val (.int p1), .val (.int p2), .val (.int p3), .val (.long q4), .second, .unset, .unset, .unset, .unset, .unset, .unset, .unset, .unset, .unset, .unset, .unset] [])) t := fun t k => R92 t (st93 _ k)
  have R96 : ∀ t, Steps p.tables e below (T93.setTop (mkF m 60 #[.val (.int p1), .val (.int p2), .val (.int p3), .val (.long q4), .second, .val (.int (p1 &&& (536870911 : Int32))), .val (.int (p2 &&& (536870911 : Int32))), .val (.int (p3 &&& (536870911 : Int32))), .val (.int (p1 &&& (536870911 : Int32))), .val (.int (((p1 &&& (536870911 : Int32)) + (1 : Int32)) + (p2 &&& (536870911 : Int32)))), .val (.int (((((p1 &&& (536870911 : Int32)) + (1 : Int32)) + (p2 &&& (536870911 : Int32))) + (1 : Int32)) + (p3 &&& (536870911 : Int32)))), .val (.ref t1), .unset, .unset, .unset, .unset] [])) t → Steps p.tables e below (s₁.setTop (mkF m 0 #[.val (.int p1), .val (.int p2), .val (.int p3), .val (.long q4), .second, .unset, .unset, .unset, .unset, .unset, .unset, .unset, .unset, .unset, .unset, .unset] [])) t := by
    intro t k
    refine R95 t ?_
    refine XS.astore X93.here hx rfl (hb hby at_58) rfl rfl (l' := #[.val (.int p1), .val (.int p2), .val (.int p3), .val (.long q4), .second, .val (.int (p1 &&& (536870911 : Int32))), .val (.int (p2 &&& (536870911 : Int32))), .val (.int (p3 &&& (536870911 : Int32))), .val (.int (p1 &&& (536870911 : Int32))), .val (.int (((p1 &&& (536870911 : Int32)) + (1 : Int32)) + (p2 &&& (536870911 : Int32)))), .val (.int (((((p1 &&& (536870911 : Int32)) + (1 : Int32)) + (p2 &&& (536870911 : Int32))) + (1 : Int32)) + (p3 &&& (536870911 : Int32)))), .val (.ref t1), .unset, .unset, .unset, .unset]) rfl ?_
    exact k
  obtain ⟨T97, h97, X97, e97, x97, A97, D97, -, st97⟩ := newO X93 hx hZ hown (hw _ (List.mem_of_getElem? (i := 2) rfl)) (hw _ (List.mem_of_getElem? (i := 3) rfl)) (hw _ (List.mem_of_getElem? (i := 4) rfl)) e93 (g := (mkF m 60 #[.val (.int p1), .val (.int p2), .val (.int p3), .val (.long q4), .second, .val (.int (p1 &&& (536870911 : Int32))), .val (.int (p2 &&& (536870911 : Int32))), .val (.int (p3 &&& (536870911 : Int32))), .val (.int (p1 &&& (536870911 : Int32))), .val (.int (((p1 &&& (536870911 : Int32)) + (1 : Int32)) + (p2 &&& (536870911 : Int32)))), .val (.int (((((p1 &&& (536870911 : Int32)) + (1 : Int32)) + (p2 &&& (536870911 : Int32))) + (1 : Int32)) + (p3 &&& (536870911 : Int32)))), .val (.ref t1), .unset, .unset, .unset, .unset] [])) rfl (hb hby at_60) (by decide) (by decide)
  obtain ⟨b1, g_b1⟩ : ∃ z, z = h93.size := ⟨_, rfl⟩
  rw [← g_b1] at A97 D97 st97
  have ne_t1_b1 : t1 ≠ b1 := Nat.ne_of_lt (Nat.lt_of_lt_of_eq V93.lt g_b1.symm)
  have n_b1 : n0 ≤ b1 := Nat.le_trans Z93 (Nat.le_of_eq g_b1.symm)
  have Z97 : n0 ≤ h97.size := Nat.le_trans Z93 x97.1
  have S_98 : Sta Z h97 "java/util/ArrayList" "DEFAULTCAPACITY_EMPTY_ELEMENTDATA" "[Ljava/lang/Object;" dc := S_94.ext x97
  have A_99 : Arv Z h97 t1 c81 .int (3 : Int32) [(.int (p1 &&& (536870911 : Int32))), (.int (((p1 &&& (536870911 : Int32)) + (1 : Int32)) + (p2 &&& (536870911 : Int32)))), (.int (((((p1 &&& (536870911 : Int32)) + (1 : Int32)) + (p2 &&& (536870911 : Int32))) + (1 : Int32)) + (p3 &&& (536870911 : Int32))))] (.int (0 : Int32)) := V93.ext x97
  have F_100 : Fld Z h97 b1 "com/example/underwright/underwright/csv/CsvRecord" "line" "J" (.long (0 : Int64)) := D97 (Or.inr (hw _ (List.mem_of_getElem? (i := 44) rfl))) (ty := .long) (by decide)
  have F_101 : Fld Z h97 b1 "com/example/underwright/underwright/csv/CsvRecord" "text" "Ljava/lang/String;" .null := D97 (Or.inr (hw _ (List.mem_of_getElem? (i := 46) rfl))) (ty := (.object "java/lang/String")) (by decide)
  have F_102 : Fld Z h97 b1 "com/example/underwright/underwright/csv/CsvRecord" "ends" "[I" .null := D97 (Or.inr (hw _ (List.mem_of_getElem? (i := 48) rfl))) (ty := (.array .int)) (by decide)
  have F_103 : Fld Z h97 b1 "com/example/underwright/underwright/csv/CsvRecord" "malformed" "Ljava/util/List;" .null := D97 (Or.inr (hw _ (List.mem_of_getElem? (i := 50) rfl))) (ty := (.object "java/util/List")) (by decide)
  have R104 : ∀ t, Steps p.tables e below (T97.setTop (mkF m 63 #[.val (.int p1), .val (.int p2), .val (.int p3), .val (.long q4), .second, .val (.int (p1 &&& (536870911 : Int32))), .val (.int (p2 &&& (536870911 : Int32))), .val (.int (p3 &&& (536870911 : Int32))), .val (.int (p1 &&& (536870911 : Int32))), .val (.int (((p1 &&& (536870911 : Int32)) + (1 : Int32)) + (p2 &&& (536870911 : Int32)))), .val (.int (((((p1 &&& (536870911 : Int32)) + (1 : Int32)) + (p2 &&& (536870911 : Int32))) + (1 : Int32)) + (p3 &&& (536870911 : Int32)))), .val (.ref t1), .unset, .unset, .unset, .unset] [(.ref b1)])) t → Steps p.tables e below (s₁.setTop (mkF m 0 #[.val (.int p1), .val (.int p2), .val (.int p3), .val (.long q4), .second, .unset, .unset, .unset, .unset, .unset, .unset, .unset, .unset, .unset, .unset, .unset] [])) t := fun t k => R96 t (st97 _ k)
  have R105 : ∀ t, Steps p.tables e below (T97.setTop (mkF m 65 #[.val (.int p1), .val (.int p2), .val (.int p3), .val (.long q4), .second, .val (.int (p1 &&& (536870911 : Int32))), .val (.int (p2 &&& (536870911 : Int32))), .val (.int (p3 &&& (536870911 : Int32))), .val (.int (p1 &&& (536870911 : Int32))), .val (.int (((p1 &&& (536870911 : Int32)) + (1 : Int32)) + (p2 &&& (536870911 : Int32)))), .val (.int (((((p1 &&& (536870911 : Int32)) + (1 : Int32)) + (p2 &&& (536870911 : Int32))) + (1 : Int32)) + (p3 &&& (536870911 : Int32)))), .val (.ref t1), .unset, .unset, .unset, .unset] [(.long q4), (.ref b1), (.ref b1)])) t → Steps p.tables e below (s₁.setTop (mkF m 0 #[.val (.int p1), .val (.int p2), .val (.int p3), .val (.long q4), .second, .unset, .unset, .unset, .unset, .unset, .unset, .unset, .unset, .unset, .unset, .unset] [])) t := by
    intro t k
    refine R104 t ?_
    refine XS.dup X97.here hx rfl (hb hby at_63) rfl rfl ?_
    refine XS.lloadN X97.here hx rfl (hb hby at_64) rfl ?_
    exact k
  have hS106 : s.Since s.vm 0 := (State.WarmedH.refl s).since 0
  obtain ⟨aStr, T106, h106, k106, X106, e106, x106, hS106, hk106, hZ106, ho106, st106⟩ := ldcS (s := s) (vm0 := s.vm) X97 hx hZ hown (hw _ (List.mem_of_getElem? (i := 5) rfl)) (own_wS hw) e97 hS106 (Nat.zero_le _) (g := (mkF m 65 #[.val (.int p1), .val (.int p2), .val (.int p3), .val (.long q4), .second, .val (.int (p1 &&& (536870911 : Int32))), .val (.int (p2 &&& (536870911 : Int32))), .val (.int (p3 &&& (536870911 : Int32))), .val (.int (p1 &&& (536870911 : Int32))), .val (.int (((p1 &&& (536870911 : Int32)) + (1 : Int32)) + (p2 &&& (536870911 : Int32)))), .val (.int (((((p1 &&& (536870911 : Int32)) + (1 : Int32)) + (p2 &&& (536870911 : Int32))) + (1 : Int32)) + (p3 &&& (536870911 : Int32)))), .val (.ref t1), .unset, .unset, .unset, .unset] [(.long q4), (.ref b1), (.ref b1)])) rfl (hb hby at_65) (n := 0) (by decide) (by decide) (by decide) (by decide)
  have Z106 : n0 ≤ h106.size := Nat.le_trans Z97 x106.1
  have S_107 : Sta Z h106 "java/util/ArrayList" "DEFAULTCAPACITY_EMPTY_ELEMENTDATA" "[Ljava/lang/Object;" dc := S_98.ext x106
  have A_108 : Arv Z h106 t1 c81 .int (3 : Int32) [(.int (p1 &&& (536870911 : Int32))), (.int (((p1 &&& (536870911 : Int32)) + (1 : Int32)) + (p2 &&& (536870911 : Int32)))), (.int (((((p1 &&& (536870911 : Int32)) + (1 : Int32)) + (p2 &&& (536870911 : Int32))) + (1 : Int32)) + (p3 &&& (536870911 : Int32))))] (.int (0 : Int32)) := A_99.ext x106
  have E_109 : Exa Z h106 b1 "com/example/underwright/underwright/csv/CsvRecord" := A97.ext x106
  have F_110 : Fld Z h106 b1 "com/example/underwright/underwright/csv/CsvRecord" "line" "J" (.long (0 : Int64)) := F_100.ext x106
  have F_111 : Fld Z h106 b1 "com/example/underwright/underwright/csv/CsvRecord" "text" "Ljava/lang/String;" .null := F_101.ext x106
  have F_112 : Fld Z h106 b1 "com/example/underwright/underwright/csv/CsvRecord" "ends" "[I" .null := F_102.ext x106
  have F_113 : Fld Z h106 b1 "com/example/underwright/underwright/csv/CsvRecord" "malformed" "Ljava/util/List;" .null := F_103.ext x106
  have R114 : ∀ t, Steps p.tables e below (T106.setTop (mkF m 67 #[.val (.int p1), .val (.int p2), .val (.int p3), .val (.long q4), .second, .val (.int (p1 &&& (536870911 : Int32))), .val (.int (p2 &&& (536870911 : Int32))), .val (.int (p3 &&& (536870911 : Int32))), .val (.int (p1 &&& (536870911 : Int32))), .val (.int (((p1 &&& (536870911 : Int32)) + (1 : Int32)) + (p2 &&& (536870911 : Int32)))), .val (.int (((((p1 &&& (536870911 : Int32)) + (1 : Int32)) + (p2 &&& (536870911 : Int32))) + (1 : Int32)) + (p3 &&& (536870911 : Int32)))), .val (.ref t1), .unset, .unset, .unset, .unset] [(.ref aStr), (.long q4), (.ref b1), (.ref b1)])) t → Steps p.tables e below (s₁.setTop (mkF m 0 #[.val (.int p1), .val (.int p2), .val (.int p3), .val (.long q4), .second, .unset, .unset, .unset, .unset, .unset, .unset, .unset, .unset, .unset, .unset, .unset] [])) t := fun t k => R105 t (st106 _ k)
  have R115 : ∀ t, Steps p.tables e below (T106.setTop (mkF m 69 #[.val (.int p1), .val (.int p2), .val (.int p3), .val (.long q4), .second, .val (.int (p1 &&& (536870911 : Int32))), .val (.int (p2 &&& (536870911 : Int32))), .val (.int (p3 &&& (536870911 : Int32))), .val (.int (p1 &&& (536870911 : Int32))), .val (.int (((p1 &&& (536870911 : Int32)) + (1 : Int32)) + (p2 &&& (536870911 : Int32)))), .val (.int (((((p1 &&& (536870911 : Int32)) + (1 : Int32)) + (p2 &&& (536870911 : Int32))) + (1 : Int32)) + (p3 &&& (536870911 : Int32)))), .val (.ref t1), .unset, .unset, .unset, .unset] [(.ref t1), (.ref aStr), (.long q4), (.ref b1), (.ref b1)])) t → Steps p.tables e below (s₁.setTop (mkF m 0 #[.val (.int p1), .val (.int p2), .val (.int p3), .val (.long q4), .second, .unset, .unset, .unset, .unset, .unset, .unset, .unset, .unset, .unset, .unset, .unset] [])) t := by
    intro t k
    refine R114 t ?_
    refine XS.aload X106.here hx rfl (hb hby at_67) rfl rfl ?_
    exact k
  obtain ⟨T116, h116, X116, e116, x116, A116, D116, -, st116⟩ := newO X106 hx hZ106 ho106 (hw _ (List.mem_of_getElem? (i := 13) rfl)) (hw _ (List.mem_of_getElem? (i := 14) rfl)) (hw _ (List.mem_of_getElem? (i := 15) rfl)) e106 (g := (mkF m 69 #[.val (.int p1), .val (.int p2), .val (.int p3), .val (.long q4), .second, .val (.int (p1 &&& (536870911 : Int32))), .val (.int (p2 &&& (536870911 : Int32))), .val (.int (p3 &&& (536870911 : Int32))), .val (.int (p1 &&& (536870911 : Int32))), .val (.int (((p1 &&& (536870911 : Int32)) + (1 : Int32)) + (p2 &&& (536870911 : Int32)))), .val (.int (((((p1 &&& (536870911 : Int32)) + (1 : Int32)) + (p2 &&& (536870911 : Int32))) + (1 : Int32)) + (p3 &&& (536870911 : Int32)))), .val (.ref t1), .unset, .unset, .unset, .unset] [(.ref t1), (.ref aStr), (.long q4), (.ref b1), (.ref b1)])) rfl (hb hby at_69) (by decide) (by decide)
  obtain ⟨b2, g_b2⟩ : ∃ z, z = h106.size := ⟨_, rfl⟩
  rw [← g_b2] at A116 D116 st116
  have ne_t1_b2 : t1 ≠ b2 := Nat.ne_of_lt (Nat.lt_of_lt_of_eq A_108.lt g_b2.symm)
  have ne_b1_b2 : b1 ≠ b2 := Nat.ne_of_lt (Nat.lt_of_lt_of_eq E_109.lt g_b2.symm)
  have n_b2 : n0 ≤ b2 := Nat.le_trans Z106 (Nat.le_of_eq g_b2.symm)
  have Z116 : n0 ≤ h116.size := Nat.le_trans Z106 x116.1
  have Y116 : k106 ≤ h116.size := Nat.le_trans hk106 x116.1
  have S_117 : Sta Z h116 "java/util/ArrayList" "DEFAULTCAPACITY_EMPTY_ELEMENTDATA" "[Ljava/lang/Object;" dc := S_107.ext x116
  have A_118 : Arv Z h116 t1 c81 .int (3 : Int32) [(.int (p1 &&& (536870911 : Int32))), (.int (((p1 &&& (536870911 : Int32)) + (1 : Int32)) + (p2 &&& (536870911 : Int32)))), (.int (((((p1 &&& (536870911 : Int32)) + (1 : Int32)) + (p2 &&& (536870911 : Int32))) + (1 : Int32)) + (p3 &&& (536870911 : Int32))))] (.int (0 : Int32)) := A_108.ext x116
  have E_119 : Exa Z h116 b1 "com/example/underwright/underwright/csv/CsvRecord" := E_109.ext x116
  have F_120 : Fld Z h116 b1 "com/example/underwright/underwright/csv/CsvRecord" "line" "J" (.long (0 : Int64)) := F_110.ext x116
  have F_121 : Fld Z h116 b1 "com/example/underwright/underwright/csv/CsvRecord" "text" "Ljava/lang/String;" .null := F_111.ext x116
  have F_122 : Fld Z h116 b1 "com/example/underwright/underwright/csv/CsvRecord" "ends" "[I" .null := F_112.ext x116
  have F_123 : Fld Z h116 b1 "com/example/underwright/underwright/csv/CsvRecord" "malformed" "Ljava/util/List;" .null := F_113.ext x116
  have F_124 : Fld Z h116 b2 "java/util/AbstractList" "modCount" "I" (.int (0 : Int32)) := D116 (Or.inl (hw _ (List.mem_of_getElem? (i := 35) rfl))) (ty := .int) (by decide)
  have F_125 : Fld Z h116 b2 "java/util/ArrayList" "elementData" "[Ljava/lang/Object;" .null := D116 (Or.inl (hw _ (List.mem_of_getElem? (i := 38) rfl))) (ty := (.array (.object "java/lang/Object"))) (by decide)
  have R126 : ∀ t, Steps p.tables e below (T116.setTop (mkF m 72 #[.val (.int p1), .val (.int p2), .val (.int p3), .val (.long q4), .second, .val (.int (p1 &&& (536870911 : Int32))), .val (.int (p2 &&& (536870911 : Int32))), .val (.int (p3 &&& (536870911 : Int32))), .val (.int (p1 &&& (536870911 : Int32))), .val (.int (((p1 &&& (536870911 : Int32)) + (1 : Int32)) + (p2 &&& (536870911 : Int32)))), .val (.int (((((p1 &&& (536870911 : Int32)) + (1 : Int32)) + (p2 &&& (536870911 : Int32))) + (1 : Int32)) + (p3 &&& (536870911 : Int32)))), .val (.ref t1), .unset, .unset, .unset, .unset] [(.ref b2), (.ref t1), (.ref aStr), (.long q4), (.ref b1), (.ref b1)])) t → Steps p.tables e below (s₁.setTop (mkF m 0 #[.val (.int p1), .val (.int p2), .val (.int p3), .val (.long q4), .second, .unset, .unset, .unset, .unset, .unset, .unset, .unset, .unset, .unset, .unset, .unset] [])) t := fun t k => R115 t (st116 _ k)
  have R127 : ∀ t, Steps p.tables e below (T116.setTop (mkF m 73 #[.val (.int p1), .val (.int p2), .val (.int p3), .val (.long q4), .second, .val (.int (p1 &&& (536870911 : Int32))), .val (.int (p2 &&& (536870911 : Int32))), .val (.int (p3 &&& (536870911 : Int32))), .val (.int (p1 &&& (536870911 : Int32))), .val (.int (((p1 &&& (536870911 : Int32)) + (1 : Int32)) + (p2 &&& (536870911 : Int32)))), .val (.int (((((p1 &&& (536870911 : Int32)) + (1 : Int32)) + (p2 &&& (536870911 : Int32))) + (1 : Int32)) + (p3 &&& (536870911 : Int32)))), .val (.ref t1), .unset, .unset, .unset, .unset] [(.ref b2), (.ref b2), (.ref t1), (.ref aStr), (.long q4), (.ref b1), (.ref b1)])) t → Steps p.tables e below (s₁.setTop (mkF m 0 #[.val (.int p1), .val (.int p2), .val (.int p3), .val (.long q4), .second, .unset, .unset, .unset, .unset, .unset, .unset, .unset, .unset, .unset, .unset, .unset] [])) t := by
    intro t k
    refine R126 t ?_
    refine XS.dup X116.here hx rfl (hb hby at_72) rfl rfl ?_
    exact k
  obtain ⟨_, _, ⟨T128, L128, k128, n128⟩, -, X128, ⟨Lc128, hQ128, l128, y128, z128⟩, st128⟩ := X116.specialBack hx (y := (⟨"java/util/ArrayList", "<init>", "()V"⟩ : MethodName)) rfl ho106 (mvT hZ106 (hw _ (List.mem_of_getElem? (i := 16) rfl))) (mvT hZ106 (hw _ (List.mem_of_getElem? (i := 17) rfl))) (mvT hZ106 (hw _ (List.mem_of_getElem? (i := 18) rfl))) (by decide) (backOf (W := 7) (rm1 l Z a0 hw [] b2 (.int (0 : Int32)) .null dc h116 n0 Z116 A116 F_124 F_125 n_b2 S_117 hdc) hZ106 (hw _ (List.mem_of_getElem? (i := 18) rfl)) (hw _ (List.mem_of_getElem? (i := 15) rfl)) (by decide) (by decide)) (g := (mkF m 73 #[.val (.int p1), .val (.int p2), .val (.int p3), .val (.long q4), .second, .val (.int (p1 &&& (536870911 : Int32))), .val (.int (p2 &&& (536870911 : Int32))), .val (.int (p3 &&& (536870911 : Int32))), .val (.int (p1 &&& (536870911 : Int32))), .val (.int (((p1 &&& (536870911 : Int32)) + (1 : Int32)) + (p2 &&& (536870911 : Int32)))), .val (.int (((((p1 &&& (536870911 : Int32)) + (1 : Int32)) + (p2 &&& (536870911 : Int32))) + (1 : Int32)) + (p3 &&& (536870911 : Int32)))), .val (.ref t1), .unset, .unset, .unset, .unset] [(.ref b2), (.ref b2), (.ref t1), (.ref aStr), (.long q4), (.ref b1), (.ref b1)])) rfl (by rw [hml]; rfl) (Steps.refl _) (a := b2) (argsL := []) (rest := [(.ref b2), (.ref t1), (.ref aStr), (.long q4), (.ref b1), (.ref b1)]) (lenOf pd_0 rfl) rfl (by show 2 * 0 + _ ≤ _; exact Nat.le_of_eq rfl) (hb hby at_73) (fun _ _ => ⟨rfl, e116, (by decide : 5 + 0 ≤ _), (by decide : 14 + 0 ≤ _)⟩)
  dsimp only [Pt.U, Pt.locs, Pt.cells, Pt.slots] at X128 l128 y128 z128 st128 hQ128
  subst l128 y128 z128
  obtain ⟨rfl, M128, J128, -, -⟩ := hQ128
  have Z128 : n0 ≤ T128.heap.size := Nat.le_trans Z116 J128.1
  have Y128 : k106 ≤ T128.heap.size := Nat.le_trans Y116 J128.1
  have S_129 : Sta Z T128.heap "java/util/ArrayList" "DEFAULTCAPACITY_EMPTY_ELEMENTDATA" "[Ljava/lang/Object;" dc := own_sta_keep S_117 J128 (allS (own_exa_st A116) all0)
  have A_130 : Arv Z T128.heap t1 c81 .int (3 : Int32) [(.int (p1 &&& (536870911 : Int32))), (.int (((p1 &&& (536870911 : Int32)) + (1 : Int32)) + (p2 &&& (536870911 : Int32)))), (.int (((((p1 &&& (536870911 : Int32)) + (1 : Int32)) + (p2 &&& (536870911 : Int32))) + (1 : Int32)) + (p3 &&& (536870911 : Int32))))] (.int (0 : Int32)) := A_118.keep J128 (ninS ne_t1_b2 nin0)
  have E_131 : Exa Z T128.heap b1 "com/example/underwright/underwright/csv/CsvRecord" := E_119.keep J128
  have F_132 : Fld Z T128.heap b1 "com/example/underwright/underwright/csv/CsvRecord" "line" "J" (.long (0 : Int64)) := F_120.keep J128 (ninS ne_b1_b2 nin0)
  have F_133 : Fld Z T128.heap b1 "com/example/underwright/underwright/csv/CsvRecord" "text" "Ljava/lang/String;" .null := F_121.keep J128 (ninS ne_b1_b2 nin0)
  have F_134 : Fld Z T128.heap b1 "com/example/underwright/underwright/csv/CsvRecord" "ends" "[I" .null := F_122.keep J128 (ninS ne_b1_b2 nin0)
  have F_135 : Fld Z T128.heap b1 "com/example/underwright/underwright/csv/CsvRecord" "malformed" "Ljava/util/List;" .null := F_123.keep J128 (ninS ne_b1_b2 nin0)
  have E_136 : Exa Z T128.heap b2 "java/util/ArrayList" := A116.keep J128
  have N128 := Fr.app N93 M128
  have R137 : ∀ t, Steps p.tables e below (T128.setTop (mkF m 76 #[.val (.int p1), .val (.int p2), .val (.int p3), .val (.long q4), .second, .val (.int (p1 &&& (536870911 : Int32))), .val (.int (p2 &&& (536870911 : Int32))), .val (.int (p3 &&& (536870911 : Int32))), .val (.int (p1 &&& (536870911 : Int32))), .val (.int (((p1 &&& (536870911 : Int32)) + (1 : Int32)) + (p2 &&& (536870911 : Int32)))), .val (.int (((((p1 &&& (536870911 : Int32)) + (1 : Int32)) + (p2 &&& (536870911 : Int32))) + (1 : Int32)) + (p3 &&& (536870911 : Int32)))), .val (.ref t1), .unset, .unset, .unset, .unset] [(.ref b2), (.ref t1), (.ref aStr), (.long q4), (.ref b1), (.ref b1)])) t → Steps p.tables e below (s₁.setTop (mkF m 0 #[.val (.int p1), .val (.int p2), .val (.int p3), .val (.long q4), .second, .unset, .unset, .unset, .unset, .unset, .unset, .unset, .unset, .unset, .unset, .unset] [])) t := fun t k => R127 t (st128.trans k)
  obtain ⟨_, _, ⟨T138, L138, k138, n138⟩, -, X138, ⟨Lc138, hQ138, l138, y138, z138⟩, st138⟩ := X128.specialBack hx (y := (⟨"com/example/underwright/underwright/csv/CsvRecord", "<init>", "(JLjava/lang/String;[ILjava/util/List;)V"⟩ : MethodName)) rfl ho106 (mvT hZ106 (hw _ (List.mem_of_getElem? (i := 39) rfl))) (mvT hZ106 (hw _ (List.mem_of_getElem? (i := 40) rfl))) (mvT hZ106 (hw _ (List.mem_of_getElem? (i := 41) rfl))) (by decide) (backOf (W := 1) (rm5 l Z a0 hw [] b1 q4 aStr t1 b2 (.long (0 : Int64)) .null .null .null T128.heap n0 Z128 E_131 F_132 F_133 F_134 F_135 n_b1) hZ106 (hw _ (List.mem_of_getElem? (i := 41) rfl)) (hw _ (List.mem_of_getElem? (i := 4) rfl)) (by decide) (by decide)) (g := (mkF m 76 #[.val (.int p1), .val (.int p2), .val (.int p3), .val (.long q4), .second, .val (.int (p1 &&& (536870911 : Int32))), .val (.int (p2 &&& (536870911 : Int32))), .val (.int (p3 &&& (536870911 : Int32))), .val (.int (p1 &&& (536870911 : Int32))), .val (.int (((p1 &&& (536870911 : Int32)) + (1 : Int32)) + (p2 &&& (536870911 : Int32)))), .val (.int (((((p1 &&& (536870911 : Int32)) + (1 : Int32)) + (p2 &&& (536870911 : Int32))) + (1 : Int32)) + (p3 &&& (536870911 : Int32)))), .val (.ref t1), .unset, .unset, .unset, .unset] [(.ref b2), (.ref t1), (.ref aStr), (.long q4), (.ref b1), (.ref b1)])) rfl (by rw [hml]; rfl) (Steps.refl _) (a := b1) (argsL := [(.long q4), (.ref aStr), (.ref t1), (.ref b2)]) (rest := [(.ref b1)]) (lenOf pd_1 rfl) rfl (by show 2 * 0 + _ ≤ _; exact Nat.le_of_eq rfl) (hb hby at_76) (fun _ _ => ⟨rfl, rfl, (by decide : 5 + 0 ≤ _), (by decide : 14 + 0 ≤ _)⟩)
  dsimp only [Pt.U, Pt.locs, Pt.cells, Pt.slots] at X138 l138 y138 z138 st138 hQ138
  subst l138 y138 z138
  obtain ⟨rfl, M138, J138, Fe138⟩ := hQ138
  have Z138 : n0 ≤ T138.heap.size := Nat.le_trans Z128 J138.1
  have Y138 : k106 ≤ T138.heap.size := Nat.le_trans Y128 J138.1
  have S_139 : Sta Z T138.heap "java/util/ArrayList" "DEFAULTCAPACITY_EMPTY_ELEMENTDATA" "[Ljava/lang/Object;" dc := own_sta_keep S_129 J138 (allS (own_exa_st E_131) all0)
  have A_140 : Arv Z T138.heap t1 c81 .int (3 : Int32) [(.int (p1 &&& (536870911 : Int32))), (.int (((p1 &&& (536870911 : Int32)) + (1 : Int32)) + (p2 &&& (536870911 : Int32)))), (.int (((((p1 &&& (536870911 : Int32)) + (1 : Int32)) + (p2 &&& (536870911 : Int32))) + (1 : Int32)) + (p3 &&& (536870911 : Int32))))] (.int (0 : Int32)) := A_130.keep J138 (ninS ne_t1_b1 nin0)
  have E_141 : Exa Z T138.heap b1 "com/example/underwright/underwright/csv/CsvRecord" := E_131.keep J138
  have E_142 : Exa Z T138.heap b2 "java/util/ArrayList" := E_136.keep J138
  have N138 := Fr.app N128 M138
  have R143 : ∀ t, Steps p.tables e below (T138.setTop (mkF m 79 #[.val (.int p1), .val (.int p2), .val (.int p3), .val (.long q4), .second, .val (.int (p1 &&& (536870911 : Int32))), .val (.int (p2 &&& (536870911 : Int32))), .val (.int (p3 &&& (536870911 : Int32))), .val (.int (p1 &&& (536870911 : Int32))), .val (.int (((p1 &&& (536870911 : Int32)) + (1 : Int32)) + (p2 &&& (536870911 : Int32)))), .val (.int (((((p1 &&& (536870911 : Int32)) + (1 : Int32)) + (p2 &&& (536870911 : Int32))) + (1 : Int32)) + (p3 &&& (536870911 : Int32)))), .val (.ref t1), .unset, .unset, .unset, .unset] [(.ref b1)])) t → Steps p.tables e below (s₁.setTop (mkF m 0 #[.val (.int p1), .val (.int p2), .val (.int p3), .val (.long q4), .second, .unset, .unset, .unset, .unset, .unset, .unset, .unset, .unset, .unset, .unset, .unset] [])) t := fun t k => R137 t (st138.trans k)
  have R144 : ∀ t, Steps p.tables e below (T138.setTop (mkF m 84 #[.val (.int p1), .val (.int p2), .val (.int p3), .val (.long q4), .second, .val (.int (p1 &&& (536870911 : Int32))), .val (.int (p2 &&& (536870911 : Int32))), .val (.int (p3 &&& (536870911 : Int32))), .val (.int (p1 &&& (536870911 : Int32))), .val (.int (((p1 &&& (536870911 : Int32)) + (1 : Int32)) + (p2 &&& (536870911 : Int32)))), .val (.int (((((p1 &&& (536870911 : Int32)) + (1 : Int32)) + (p2 &&& (536870911 : Int32))) + (1 : Int32)) + (p3 &&& (536870911 : Int32)))), .val (.ref t1), .val (.ref b1), .unset, .unset, .unset] [(.int (0 : Int32)), (.ref b1)])) t → Steps p.tables e below (s₁.setTop (mkF m 0 #[.val (.int p1), .val (.int p2), .val (.int p3), .val (.long q4), .second, .unset, .unset, .unset, .unset, .unset, .unset, .unset, .unset, .unset, .unset, .unset] [])) t := by
    intro t k
    refine R143 t ?_
    refine XS.astore X138.here hx rfl (hb hby at_79) rfl rfl (l' := #[.val (.int p1), .val (.int p2), .val (.int p3), .val (.long q4), .second, .val (.int (p1 &&& (536870911 : Int32))), .val (.int (p2 &&& (536870911 : Int32))), .val (.int (p3 &&& (536870911 : Int32))), .val (.int (p1 &&& (536870911 : Int32))), .val (.int (((p1 &&& (536870911 : Int32)) + (1 : Int32)) + (p2 &&& (536870911 : Int32)))), .val (.int (((((p1 &&& (536870911 : Int32)) + (1 : Int32)) + (p2 &&& (536870911 : Int32))) + (1 : Int32)) + (p3 &&& (536870911 : Int32)))), .val (.ref t1), .val (.ref b1), .unset, .unset, .unset]) rfl ?_
    refine XS.aload X138.here hx rfl (hb hby at_81) rfl rfl ?_
    refine XS.iconst X138.here hx rfl (hb hby at_83) ?_
    exact k
  obtain ⟨_, _, q146a, q146b, q146c⟩ := isOf hZ106 rfl E_141
  obtain ⟨_, _, ⟨T145, L145, k145, n145⟩, -, X145, ⟨Lc145, hQ145, l145, y145, z145⟩, st145⟩ := X138.virtualBack hx (y := (⟨"com/example/underwright/underwright/csv/CsvRecord", "start", "(I)I"⟩ : MethodName)) (z := (⟨"com/example/underwright/underwright/csv/CsvRecord", "start", "(I)I"⟩ : MethodName)) ho106 (mvT hZ106 (hw _ (List.mem_of_getElem? (i := 51) rfl))) (mvT hZ106 (hw _ (List.mem_of_getElem? (i := 52) rfl))) (notFace_of_selects (args := #[]) (mvT hZ106 (hw _ (List.mem_of_getElem? (i := 54) rfl)))) (mvT hZ106 (hw _ (List.mem_of_getElem? (i := 54) rfl))) (mvT hZ106 (hw _ (List.mem_of_getElem? (i := 53) rfl))) (by decide) (backOf (W := 0) (rm6z l Z a0 hw [] b1  T138.heap n0 Z138 ) hZ106 (hw _ (List.mem_of_getElem? (i := 55) rfl)) (hw _ (List.mem_of_getElem? (i := 4) rfl)) (by decide) (by decide)) q146a q146c (g := (mkF m 84 #[.val (.int p1), .val (.int p2), .val (.int p3), .val (.long q4), .second, .val (.int (p1 &&& (536870911 : Int32))), .val (.int (p2 &&& (536870911 : Int32))), .val (.int (p3 &&& (536870911 : Int32))), .val (.int (p1 &&& (536870911 : Int32))), .val (.int (((p1 &&& (536870911 : Int32)) + (1 : Int32)) + (p2 &&& (536870911 : Int32)))), .val (.int (((((p1 &&& (536870911 : Int32)) + (1 : Int32)) + (p2 &&& (536870911 : Int32))) + (1 : Int32)) + (p3 &&& (536870911 : Int32)))), .val (.ref t1), .val (.ref b1), .unset, .unset, .unset] [(.int (0 : Int32)), (.ref b1)])) rfl (by rw [hml]; rfl) (Steps.refl _) (argsL := [(.int (0 : Int32))]) (rest := []) (lenOf pd_2 rfl) rfl (by show 2 * 0 + _ ≤ _; exact Nat.le_of_eq rfl) (hb hby at_84) (fun _ _ => ⟨rfl, rfl, (by decide : 5 + 0 ≤ _), (by decide : 14 + 0 ≤ _)⟩)
  dsimp only [Pt.U, Pt.locs, Pt.cells, Pt.slots] at X145 l145 y145 z145 st145 hQ145
  subst l145 y145 z145
  obtain ⟨rfl, M145, e145⟩ := hQ145
  have N145 := Fr.app N138 M145
  have R147 : ∀ t, Steps p.tables e below (T145.setTop (mkF m 87 #[.val (.int p1), .val (.int p2), .val (.int p3), .val (.long q4), .second, .val (.int (p1 &&& (536870911 : Int32))), .val (.int (p2 &&& (536870911 : Int32))), .val (.int (p3 &&& (536870911 : Int32))), .val (.int (p1 &&& (536870911 : Int32))), .val (.int (((p1 &&& (536870911 : Int32)) + (1 : Int32)) + (p2 &&& (536870911 : Int32)))), .val (.int (((((p1 &&& (536870911 : Int32)) + (1 : Int32)) + (p2 &&& (536870911 : Int32))) + (1 : Int32)) + (p3 &&& (536870911 : Int32)))), .val (.ref t1), .val (.ref b1), .unset, .unset, .unset] [(.int (0 : Int32))])) t → Steps p.tables e below (s₁.setTop (mkF m 0 #[.val (.int p1), .val (.int p2), .val (.int p3), .val (.long q4), .second, .unset, .unset, .unset, .unset, .unset, .unset, .unset, .unset, .unset, .unset, .unset] [])) t := fun t k => R144 t (st145.trans k)
  have R148 : ∀ t, Steps p.tables e below (T145.setTop (mkF m 92 #[.val (.int p1), .val (.int p2), .val (.int p3), .val (.long q4), .second, .val (.int (p1 &&& (536870911 : Int32))), .val (.int (p2 &&& (536870911 : Int32))), .val (.int (p3 &&& (536870911 : Int32))), .val (.int (p1 &&& (536870911 : Int32))), .val (.int (((p1 &&& (536870911 : Int32)) + (1 : Int32)) + (p2 &&& (536870911 : Int32)))), .val (.int (((((p1 &&& (536870911 : Int32)) + (1 : Int32)) + (p2 &&& (536870911 : Int32))) + (1 : Int32)) + (p3 &&& (536870911 : Int32)))), .val (.ref t1), .val (.ref b1), .val (.int (0 : Int32)), .unset, .unset] [(.int (1 : Int32)), (.ref b1)])) t → Steps p.tables e below (s₁.setTop (mkF m 0 #[.val (.int p1), .val (.int p2), .val (.int p3), .val (.long q4), .second, .unset, .unset, .unset, .unset, .unset, .unset, .unset, .unset, .unset, .unset, .unset] [])) t := by
    intro t k
    refine R147 t ?_
    refine XS.istore X145.here hx rfl (hb hby at_87) rfl (l' := #[.val (.int p1), .val (.int p2), .val (.int p3), .val (.long q4), .second, .val (.int (p1 &&& (536870911 : Int32))), .val (.int (p2 &&& (536870911 : Int32))), .val (.int (p3 &&& (536870911 : Int32))), .val (.int (p1 &&& (536870911 : Int32))), .val (.int (((p1 &&& (536870911 : Int32)) + (1 : Int32)) + (p2 &&& (536870911 : Int32)))), .val (.int (((((p1 &&& (536870911 : Int32)) + (1 : Int32)) + (p2 &&& (536870911 : Int32))) + (1 : Int32)) + (p3 &&& (536870911 : Int32)))), .val (.ref t1), .val (.ref b1), .val (.int (0 : Int32)), .unset, .unset]) rfl ?_
    refine XS.aload X145.here hx rfl (hb hby at_89) rfl rfl ?_
    refine XS.iconst X145.here hx rfl (hb hby at_91) ?_
    exact k
  obtain ⟨_, _, q150a, q150b, q150c⟩ := isOf hZ106 e145 E_141
  obtain ⟨_, _, ⟨T149, L149, k149, n149⟩, -, X149, ⟨Lc149, hQ149, l149, y149, z149⟩, st149⟩ := X145.virtualBack hx (y := (⟨"com/example/underwright/underwright/csv/CsvRecord", "start", "(I)I"⟩ : MethodName)) (z := (⟨"com/example/underwright/underwright/csv/CsvRecord", "start", "(I)I"⟩ : MethodName)) ho106 (mvT hZ106 (hw _ (List.mem_of_getElem? (i := 51) rfl))) (mvT hZ106 (hw _ (List.mem_of_getElem? (i := 52) rfl))) (notFace_of_selects (args := #[]) (mvT hZ106 (hw _ (List.mem_of_getElem? (i := 54) rfl)))) (mvT hZ106 (hw _ (List.mem_of_getElem? (i := 54) rfl))) (mvT hZ106 (hw _ (List.mem_of_getElem? (i := 53) rfl))) (by decide) (backOf (W := 0) (rm6n l Z a0 hw [] b1 (1 : Int32) t1 c81 [(.int (p1 &&& (536870911 : Int32))), (.int (((p1 &&& (536870911 : Int32)) + (1 : Int32)) + (p2 &&& (536870911 : Int32)))), (.int (((((p1 &&& (536870911 : Int32)) + (1 : Int32)) + (p2 &&& (536870911 : Int32))) + (1 : Int32)) + (p3 &&& (536870911 : Int32))))] (p1 &&& (536870911 : Int32)) T138.heap n0 Z138 Fe138 A_140 (by decide) (by decide) rfl) hZ106 (hw _ (List.mem_of_getElem? (i := 55) rfl)) (hw _ (List.mem_of_getElem? (i := 4) rfl)) (by decide) (by decide)) q150a q150c (g := (mkF m 92 #[.val (.int p1), .val (.int p2), .val (.int p3), .val (.long q4), .second, .val (.int (p1 &&& (536870911 : Int32))), .val (.int (p2 &&& (536870911 : Int32))), .val (.int (p3 &&& (536870911 : Int32))), .val (.int (p1 &&& (536870911 : Int32))), .val (.int (((p1 &&& (536870911 : Int32)) + (1 : Int32)) + (p2 &&& (536870911 : Int32)))), .val (.int (((((p1 &&& (536870911 : Int32)) + (1 : Int32)) + (p2 &&& (536870911 : Int32))) + (1 : Int32)) + (p3 &&& (536870911 : Int32)))), .val (.ref t1), .val (.ref b1), .val (.int (0 : Int32)), .unset, .unset] [(.int (1 : Int32)), (.ref b1)])) rfl (by rw [hml]; rfl) (Steps.refl _) (argsL := [(.int (1 : Int32))]) (rest := []) (lenOf pd_2 rfl) rfl (by show 2 * 0 + _ ≤ _; exact Nat.le_of_eq rfl) (hb hby at_92) (fun _ _ => ⟨rfl, e145, (by decide : 5 + 0 ≤ _), (by decide : 14 + 0 ≤ _)⟩)
  dsimp only [Pt.U, Pt.locs, Pt.cells, Pt.slots] at X149 l149 y149 z149 st149 hQ149
  subst l149 y149 z149
  obtain ⟨rfl, M149, e149⟩ := hQ149
  have N149 := Fr.app N145 M149
  have R151 : ∀ t, Steps p.tables e below (T149.setTop (mkF m 95 #[.val (.int p1), .val (.int p2), .val (.int p3), .val (.long q4), .second, .val (.int (p1 &&& (536870911 : Int32))), .val (.int (p2 &&& (536870911 : Int32))), .val (.int (p3 &&& (536870911 : Int32))), .val (.int (p1 &&& (536870911 : Int32))), .val (.int (((p1 &&& (536870911 : Int32)) + (1 : Int32)) + (p2 &&& (536870911 : Int32)))), .val (.int (((((p1 &&& (536870911 : Int32)) + (1 : Int32)) + (p2 &&& (536870911 : Int32))) + (1 : Int32)) + (p3 &&& (536870911 : Int32)))), .val (.ref t1), .val (.ref b1), .val (.int (0 : Int32)), .unset, .unset] [(.int ((p1 &&& (536870911 : Int32)) + (1 : Int32)))])) t → Steps p.tables e below (s₁.setTop (mkF m 0 #[.val (.int p1), .val (.int p2), .val (.int p3), .val (.long q4), .second, .unset, .unset, .unset, .unset, .unset, .unset, .unset, .unset, .unset, .unset, .unset] [])) t := fun t k => R148 t (st149.trans k)
  have R152 : ∀ t, Steps p.tables e below (T149.setTop (mkF m 100 #[.val (.int p1), .val (.int p2), .val (.int p3), .val (.long q4), .second, .val (.int (p1 &&& (536870911 : Int32))), .val (.int (p2 &&& (536870911 : Int32))), .val (.int (p3 &&& (536870911 : Int32))), .val (.int (p1 &&& (536870911 : Int32))), .val (.int (((p1 &&& (536870911 : Int32)) + (1 : Int32)) + (p2 &&& (536870911 : Int32)))), .val (.int (((((p1 &&& (536870911 : Int32)) + (1 : Int32)) + (p2 &&& (536870911 : Int32))) + (1 : Int32)) + (p3 &&& (536870911 : Int32)))), .val (.ref t1), .val (.ref b1), .val (.int (0 : Int32)), .val (.int ((p1 &&& (536870911 : Int32)) + (1 : Int32))), .unset] [(.int (2 : Int32)), (.ref b1)])) t → Steps p.tables e below (s₁.setTop (mkF m 0 #[.val (.int p1), .val (.int p2), .val (.int p3), .val (.long q4), .second, .unset, .unset, .unset, .unset, .unset, .unset, .unset, .unset, .unset, .unset, .unset] [])) t := by
    intro t k
    refine R151 t ?_
    refine XS.istore X149.here hx rfl (hb hby at_95) rfl (l' := #[.val (.int p1), .val (.int p2), .val (.int p3), .val (.long q4), .second, .val (.int (p1 &&& (536870911 : Int32))), .val (.int (p2 &&& (536870911 : Int32))), .val (.int (p3 &&& (536870911 : Int32))), .val (.int (p1 &&& (536870911 : Int32))), .val (.int (((p1 &&& (536870911 : Int32)) + (1 : Int32)) + (p2 &&& (536870911 : Int32)))), .val (.int (((((p1 &&& (536870911 : Int32)) + (1 : Int32)) + (p2 &&& (536870911 : Int32))) + (1 : Int32)) + (p3 &&& (536870911 : Int32)))), .val (.ref t1), .val (.ref b1), .val (.int (0 : Int32)), .val (.int ((p1 &&& (536870911 : Int32)) + (1 : Int32))), .unset]) rfl ?_
    refine XS.aload X149.here hx rfl (hb hby at_97) rfl rfl ?_
    refine XS.iconst X149.here hx rfl (hb hby at_99) ?_
    exact k
  obtain ⟨_, _, q154a, q154b, q154c⟩ := isOf hZ106 e149 E_141
  obtain ⟨_, _, ⟨T153, L153, k153, n153⟩, -, X153, ⟨Lc153, hQ153, l153, y153, z153⟩, st153⟩ := X149.virtualBack hx (y := (⟨"com/example/underwright/underwright/csv/CsvRecord", "start", "(I)I"⟩ : MethodName)) (z := (⟨"com/example/underwright/underwright/csv/CsvRecord", "start", "(I)I"⟩ : MethodName)) ho106 (mvT hZ106 (hw _ (List.mem_of_getElem? (i := 51) rfl))) (mvT hZ106 (hw _ (List.mem_of_getElem? (i := 52) rfl))) (notFace_of_selects (args := #[]) (mvT hZ106 (hw _ (List.mem_of_getElem? (i := 54) rfl)))) (mvT hZ106 (hw _ (List.mem_of_getElem? (i := 54) rfl))) (mvT hZ106 (hw _ (List.mem_of_getElem? (i := 53) rfl))) (by decide) (backOf (W := 0) (rm6n l Z a0 hw [] b1 (2 : Int32) t1 c81 [(.int (p1 &&& (536870911 : Int32))), (.int (((p1 &&& (536870911 : Int32)) + (1 : Int32)) + (p2 &&& (536870911 : Int32)))), (.int (((((p1 &&& (536870911 : Int32)) + (1 : Int32)) + (p2 &&& (536870911 : Int32))) + (1 : Int32)) + (p3 &&& (536870911 : Int32))))] (((p1 &&& (536870911 : Int32)) + (1 : Int32)) + (p2 &&& (536870911 : Int32))) T138.heap n0 Z138 Fe138 A_140 (by decide) (by decide) rfl) hZ106 (hw _ (List.mem_of_getElem? (i := 55) rfl)) (hw _ (List.mem_of_getElem? (i := 4) rfl)) (by decide) (by decide)) q154a q154c (g := (mkF m 100 #[.val (.int p1), .val (.int p2), .val (.int p3), .val (.long q4), .second, .val (.int (p1 &&& (536870911 : Int32))), .val (.int (p2 &&& (536870911 : Int32))), .val (.int (p3 &&& (536870911 : Int32))), .val (.int (p1 &&& (536870911 : Int32))), .val (.int (((p1 &&& (536870911 : Int32)) + (1 : Int32)) + (p2 &&& (536870911 : Int32)))), .val (.int (((((p1 &&& (536870911 : Int32)) + (1 : Int32)) + (p2 &&& (536870911 : Int32))) + (1 : Int32)) + (p3 &&& (536870911 : Int32)))), .val (.ref t1), .val (.ref b1), .val (.int (0 : Int32)), .val (.int ((p1 &&& (536870911 : Int32)) + (1 : Int32))), .unset] [(.int (2 : Int32)), (.ref b1)])) rfl (by rw [hml]; rfl) (Steps.refl _) (argsL := [(.int (2 : Int32))]) (rest := []) (lenOf pd_2 rfl) rfl (by show 2 * 0 + _ ≤ _; exact Nat.le_of_eq rfl) (hb hby at_100) (fun _ _ => ⟨rfl, e149, (by decide : 5 + 0 ≤ _), (by decide : 14 + 0 ≤ _)⟩)
  dsimp only [Pt.U, Pt.locs, Pt.cells, Pt.slots] at X153 l153 y153 z153 st153 hQ153
  subst l153 y153 z153
  obtain ⟨rfl, M153, e153⟩ := hQ153
  have N153 := Fr.app N149 M153
  have R155 : ∀ t, Steps p.tables e below (T153.setTop (mkF m 103 #[.val (.int p1), .val (.int p2), .val (.int p3), .val (.long q4), .second, .val (.int (p1 &&& (536870911 : Int32))), .val (.int (p2 &&& (536870911 : Int32))), .val (.int (p3 &&& (536870911 : Int32))), .val (.int (p1 &&& (536870911 : Int32))), .val (.int (((p1 &&& (536870911 : Int32)) + (1 : Int32)) + (p2 &&& (536870911 : Int32)))), .val (.int (((((p1 &&& (536870911 : Int32)) + (1 : Int32)) + (p2 &&& (536870911 : Int32))) + (1 : Int32)) + (p3 &&& (536870911 : Int32)))), .val (.ref t1), .val (.ref b1), .val (.int (0 : Int32)), .val (.int ((p1 &&& (536870911 : Int32)) + (1 : Int32))), .unset] [(.int ((((p1 &&& (536870911 : Int32)) + (1 : Int32)) + (p2 &&& (536870911 : Int32))) + (1 : Int32)))])) t → Steps p.tables e below (s₁.setTop (mkF m 0 #[.val (.int p1), .val (.int p2), .val (.int p3), .val (.long q4), .second, .unset, .unset, .unset, .unset, .unset, .unset, .unset, .unset, .unset, .unset, .unset] [])) t := fun t k => R152 t (st153.trans k)
  have R156 : ∀ t, Steps p.tables e below (T153.setTop (mkF m 107 #[.val (.int p1), .val (.int p2), .val (.int p3), .val (.long q4), .second, .val (.int (p1 &&& (536870911 : Int32))), .val (.int (p2 &&& (536870911 : Int32))), .val (.int (p3 &&& (536870911 : Int32))), .val (.int (p1 &&& (536870911 : Int32))), .val (.int (((p1 &&& (536870911 : Int32)) + (1 : Int32)) + (p2 &&& (536870911 : Int32)))), .val (.int (((((p1 &&& (536870911 : Int32)) + (1 : Int32)) + (p2 &&& (536870911 : Int32))) + (1 : Int32)) + (p3 &&& (536870911 : Int32)))), .val (.ref t1), .val (.ref b1), .val (.int (0 : Int32)), .val (.int ((p1 &&& (536870911 : Int32)) + (1 : Int32))), .val (.int ((((p1 &&& (536870911 : Int32)) + (1 : Int32)) + (p2 &&& (536870911 : Int32))) + (1 : Int32)))] [(.int (0 : Int32))])) t → Steps p.tables e below (s₁.setTop (mkF m 0 #[.val (.int p1), .val (.int p2), .val (.int p3), .val (.long q4), .second, .unset, .unset, .unset, .unset, .unset, .unset, .unset, .unset, .unset, .unset, .unset] [])) t := by
    intro t k
    refine R155 t ?_
    refine XS.istore X153.here hx rfl (hb hby at_103) rfl (l' := #[.val (.int p1), .val (.int p2), .val (.int p3), .val (.long q4), .second, .val (.int (p1 &&& (536870911 : Int32))), .val (.int (p2 &&& (536870911 : Int32))), .val (.int (p3 &&& (536870911 : Int32))), .val (.int (p1 &&& (536870911 : Int32))), .val (.int (((p1 &&& (536870911 : Int32)) + (1 : Int32)) + (p2 &&& (536870911 : Int32)))), .val (.int (((((p1 &&& (536870911 : Int32)) + (1 : Int32)) + (p2 &&& (536870911 : Int32))) + (1 : Int32)) + (p3 &&& (536870911 : Int32)))), .val (.ref t1), .val (.ref b1), .val (.int (0 : Int32)), .val (.int ((p1 &&& (536870911 : Int32)) + (1 : Int32))), .val (.int ((((p1 &&& (536870911 : Int32)) + (1 : Int32)) + (p2 &&& (536870911 : Int32))) + (1 : Int32)))]) rfl ?_
    refine XS.iload X153.here hx rfl (hb hby at_105) rfl ?_
    exact k
  have R157 : ∀ t, Steps p.tables e below (T153.setTop (mkF m 110 #[.val (.int p1), .val (.int p2), .val (.int p3), .val (.long q4), .second, .val (.int (p1 &&& (536870911 : Int32))), .val (.int (p2 &&& (536870911 : Int32))), .val (.int (p3 &&& (536870911 : Int32))), .val (.int (p1 &&& (536870911 : Int32))), .val (.int (((p1 &&& (536870911 : Int32)) + (1 : Int32)) + (p2 &&& (536870911 : Int32)))), .val (.int (((((p1 &&& (536870911 : Int32)) + (1 : Int32)) + (p2 &&& (536870911 : Int32))) + (1 : Int32)) + (p3 &&& (536870911 : Int32)))), .val (.ref t1), .val (.ref b1), .val (.int (0 : Int32)), .val (.int ((p1 &&& (536870911 : Int32)) + (1 : Int32))), .val (.int ((((p1 &&& (536870911 : Int32)) + (1 : Int32)) + (p2 &&& (536870911 : Int32))) + (1 : Int32)))] [])) t → Steps p.tables e below (s₁.setTop (mkF m 0 #[.val (.int p1), .val (.int p2), .val (.int p3), .val (.long q4), .second, .unset, .unset, .unset, .unset, .unset, .unset, .unset, .unset, .unset, .unset, .unset] [])) t := by
    intro t k
    refine R156 t ?_
    refine XS.ifNo X153.here hx rfl (hb hby at_107) rfl ((if0 _ _).trans (teq rfl).2) ?_
    exact k
  have R158 : ∀ t, Steps p.tables e below (T153.setTop (mkF m 116 #[.val (.int p1), .val (.int p2), .val (.int p3), .val (.long q4), .second, .val (.int (p1 &&& (536870911 : Int32))), .val (.int (p2 &&& (536870911 : Int32))), .val (.int (p3 &&& (536870911 : Int32))), .val (.int (p1 &&& (536870911 : Int32))), .val (.int (((p1 &&& (536870911 : Int32)) + (1 : Int32)) + (p2 &&& (536870911 : Int32)))), .val (.int (((((p1 &&& (536870911 : Int32)) + (1 : Int32)) + (p2 &&& (536870911 : Int32))) + (1 : Int32)) + (p3 &&& (536870911 : Int32)))), .val (.ref t1), .val (.ref b1), .val (.int (0 : Int32)), .val (.int ((p1 &&& (536870911 : Int32)) + (1 : Int32))), .val (.int ((((p1 &&& (536870911 : Int32)) + (1 : Int32)) + (p2 &&& (536870911 : Int32))) + (1 : Int32)))] [(.int ((p1 &&& (536870911 : Int32)) + (1 : Int32))), (.int ((p1 &&& (536870911 : Int32)) + (1 : Int32)))])) t → Steps p.tables e below (s₁.setTop (mkF m 0 #[.val (.int p1), .val (.int p2), .val (.int p3), .val (.long q4), .second, .unset, .unset, .unset, .unset, .unset, .unset, .unset, .unset, .unset, .unset, .unset] [])) t := by
    intro t k
    refine R157 t ?_
    refine XS.iload X153.here hx rfl (hb hby at_110) rfl ?_
    refine XS.iload X153.here hx rfl (hb hby at_112) rfl ?_
    refine XS.iconst X153.here hx rfl (hb hby at_114) ?_
    refine XS.iadd X153.here hx rfl (hb hby at_115) rfl ?_
    exact k
  have R159 : ∀ t, Steps p.tables e below (T153.setTop (mkF m 119 #[.val (.int p1), .val (.int p2), .val (.int p3), .val (.long q4), .second, .val (.int (p1 &&& (536870911 : Int32))), .val (.int (p2 &&& (536870911 : Int32))), .val (.int (p3 &&& (536870911 : Int32))), .val (.int (p1 &&& (536870911 : Int32))), .val (.int (((p1 &&& (536870911 : Int32)) + (1 : Int32)) + (p2 &&& (536870911 : Int32)))), .val (.int (((((p1 &&& (536870911 : Int32)) + (1 : Int32)) + (p2 &&& (536870911 : Int32))) + (1 : Int32)) + (p3 &&& (536870911 : Int32)))), .val (.ref t1), .val (.ref b1), .val (.int (0 : Int32)), .val (.int ((p1 &&& (536870911 : Int32)) + (1 : Int32))), .val (.int ((((p1 &&& (536870911 : Int32)) + (1 : Int32)) + (p2 &&& (536870911 : Int32))) + (1 : Int32)))] [])) t → Steps p.tables e below (s₁.setTop (mkF m 0 #[.val (.int p1), .val (.int p2), .val (.int p3), .val (.long q4), .second, .unset, .unset, .unset, .unset, .unset, .unset, .unset, .unset, .unset, .unset, .unset] [])) t := by
    intro t k
    refine R158 t ?_
    refine XS.icmpNo X153.here hx rfl (hb hby at_116) rfl (teq rfl).2 ?_
    exact k
  have R160 : ∀ t, Steps p.tables e below (T153.setTop (mkF m 128 #[.val (.int p1), .val (.int p2), .val (.int p3), .val (.long q4), .second, .val (.int (p1 &&& (536870911 : Int32))), .val (.int (p2 &&& (536870911 : Int32))), .val (.int (p3 &&& (536870911 : Int32))), .val (.int (p1 &&& (536870911 : Int32))), .val (.int (((p1 &&& (536870911 : Int32)) + (1 : Int32)) + (p2 &&& (536870911 : Int32)))), .val (.int (((((p1 &&& (536870911 : Int32)) + (1 : Int32)) + (p2 &&& (536870911 : Int32))) + (1 : Int32)) + (p3 &&& (536870911 : Int32)))), .val (.ref t1), .val (.ref b1), .val (.int (0 : Int32)), .val (.int ((p1 &&& (536870911 : Int32)) + (1 : Int32))), .val (.int ((((p1 &&& (536870911 : Int32)) + (1 : Int32)) + (p2 &&& (536870911 : Int32))) + (1 : Int32)))] [(.int (((p1 &&& (536870911 : Int32)) + (p2 &&& (536870911 : Int32))) + (2 : Int32))), (.int ((((p1 &&& (536870911 : Int32)) + (1 : Int32)) + (p2 &&& (536870911 : Int32))) + (1 : Int32)))])) t → Steps p.tables e below (s₁.setTop (mkF m 0 #[.val (.int p1), .val (.int p2), .val (.int p3), .val (.long q4), .second, .unset, .unset, .unset, .unset, .unset, .unset, .unset, .unset, .unset, .unset, .unset] [])) t := by
    intro t k
    refine R159 t ?_
    refine XS.iload X153.here hx rfl (hb hby at_119) rfl ?_
    refine XS.iload X153.here hx rfl (hb hby at_121) rfl ?_
    refine XS.iload X153.here hx rfl (hb hby at_123) rfl ?_
    refine XS.iadd X153.here hx rfl (hb hby at_125) rfl ?_
    refine XS.iconst X153.here hx rfl (hb hby at_126) ?_
    refine XS.iadd X153.here hx rfl (hb hby at_127) rfl ?_
    exact k
  have R161 : ∀ t, Steps p.tables e below (T153.setTop (mkF m 131 #[.val (.int p1), .val (.int p2), .val (.int p3), .val (.long q4), .second, .val (.int (p1 &&& (536870911 : Int32))), .val (.int (p2 &&& (536870911 : Int32))), .val (.int (p3 &&& (536870911 : Int32))), .val (.int (p1 &&& (536870911 : Int32))), .val (.int (((p1 &&& (536870911 : Int32)) + (1 : Int32)) + (p2 &&& (536870911 : Int32)))), .val (.int (((((p1 &&& (536870911 : Int32)) + (1 : Int32)) + (p2 &&& (536870911 : Int32))) + (1 : Int32)) + (p3 &&& (536870911 : Int32)))), .val (.ref t1), .val (.ref b1), .val (.int (0 : Int32)), .val (.int ((p1 &&& (536870911 : Int32)) + (1 : Int32))), .val (.int ((((p1 &&& (536870911 : Int32)) + (1 : Int32)) + (p2 &&& (536870911 : Int32))) + (1 : Int32)))] [])) t → Steps p.tables e below (s₁.setTop (mkF m 0 #[.val (.int p1), .val (.int p2), .val (.int p3), .val (.long q4), .second, .unset, .unset, .unset, .unset, .unset, .unset, .unset, .unset, .unset, .unset, .unset] [])) t := by
    intro t k
    refine R160 t ?_
    refine XS.icmpNo X153.here hx rfl (hb hby at_128) rfl (teq (own_1 _ _)).2 ?_
    exact k
  have R162 : ∀ t, Steps p.tables e below (T153.setTop (mkF m 134 #[.val (.int p1), .val (.int p2), .val (.int p3), .val (.long q4), .second, .val (.int (p1 &&& (536870911 : Int32))), .val (.int (p2 &&& (536870911 : Int32))), .val (.int (p3 &&& (536870911 : Int32))), .val (.int (p1 &&& (536870911 : Int32))), .val (.int (((p1 &&& (536870911 : Int32)) + (1 : Int32)) + (p2 &&& (536870911 : Int32)))), .val (.int (((((p1 &&& (536870911 : Int32)) + (1 : Int32)) + (p2 &&& (536870911 : Int32))) + (1 : Int32)) + (p3 &&& (536870911 : Int32)))), .val (.ref t1), .val (.ref b1), .val (.int (0 : Int32)), .val (.int ((p1 &&& (536870911 : Int32)) + (1 : Int32))), .val (.int ((((p1 &&& (536870911 : Int32)) + (1 : Int32)) + (p2 &&& (536870911 : Int32))) + (1 : Int32)))] [(.int (0 : Int32)), (.ref b1)])) t → Steps p.tables e below (s₁.setTop (mkF m 0 #[.val (.int p1), .val (.int p2), .val (.int p3), .val (.long q4), .second, .unset, .unset, .unset, .unset, .unset, .unset, .unset, .unset, .unset, .unset, .unset] [])) t := by
    intro t k
    refine R161 t ?_
    refine XS.aload X153.here hx rfl (hb hby at_131) rfl rfl ?_
    refine XS.iconst X153.here hx rfl (hb hby at_133) ?_
    exact k
  obtain ⟨_, _, q164a, q164b, q164c⟩ := isOf hZ106 e153 E_141
  obtain ⟨_, _, ⟨T163, L163, k163, n163⟩, -, X163, ⟨Lc163, hQ163, l163, y163, z163⟩, st163⟩ := X153.virtualBack hx (y := (⟨"com/example/underwright/underwright/csv/CsvRecord", "end", "(I)I"⟩ : MethodName)) (z := (⟨"com/example/underwright/underwright/csv/CsvRecord", "end", "(I)I"⟩ : MethodName)) ho106 (mvT hZ106 (hw _ (List.mem_of_getElem? (i := 56) rfl))) (mvT hZ106 (hw _ (List.mem_of_getElem? (i := 57) rfl))) (notFace_of_selects (args := #[]) (mvT hZ106 (hw _ (List.mem_of_getElem? (i := 59) rfl)))) (mvT hZ106 (hw _ (List.mem_of_getElem? (i := 59) rfl))) (mvT hZ106 (hw _ (List.mem_of_getElem? (i := 58) rfl))) (by decide) (backOf (W := 0) (rm7 l Z a0 hw [] b1 (0 : Int32) t1 c81 [(.int (p1 &&& (536870911 : Int32))), (.int (((p1 &&& (536870911 : Int32)) + (1 : Int32)) + (p2 &&& (536870911 : Int32)))), (.int (((((p1 &&& (536870911 : Int32)) + (1 : Int32)) + (p2 &&& (536870911 : Int32))) + (1 : Int32)) + (p3 &&& (536870911 : Int32))))] (p1 &&& (536870911 : Int32)) T138.heap n0 Z138 Fe138 A_140 (by decide) rfl) hZ106 (hw _ (List.mem_of_getElem? (i := 60) rfl)) (hw _ (List.mem_of_getElem? (i := 4) rfl)) (by decide) (by decide)) q164a q164c (g := (mkF m 134 #[.val (.int p1), .val (.int p2), .val (.int p3), .val (.long q4), .second, .val (.int (p1 &&& (536870911 : Int32))), .val (.int (p2 &&& (536870911 : Int32))), .val (.int (p3 &&& (536870911 : Int32))), .val (.int (p1 &&& (536870911 : Int32))), .val (.int (((p1 &&& (536870911 : Int32)) + (1 : Int32)) + (p2 &&& (536870911 : Int32)))), .val (.int (((((p1 &&& (536870911 : Int32)) + (1 : Int32)) + (p2 &&& (536870911 : Int32))) + (1 : Int32)) + (p3 &&& (536870911 : Int32)))), .val (.ref t1), .val (.ref b1), .val (.int (0 : Int32)), .val (.int ((p1 &&& (536870911 : Int32)) + (1 : Int32))), .val (.int ((((p1 &&& (536870911 : Int32)) + (1 : Int32)) + (p2 &&& (536870911 : Int32))) + (1 : Int32)))] [(.int (0 : Int32)), (.ref b1)])) rfl (by rw [hml]; rfl) (Steps.refl _) (argsL := [(.int (0 : Int32))]) (rest := []) (lenOf pd_2 rfl) rfl (by show 2 * 0 + _ ≤ _; exact Nat.le_of_eq rfl) (hb hby at_134) (fun _ _ => ⟨rfl, e153, (by decide : 5 + 0 ≤ _), (by decide : 14 + 0 ≤ _)⟩)
  dsimp only [Pt.U, Pt.locs, Pt.cells, Pt.slots] at X163 l163 y163 z163 st163 hQ163
  subst l163 y163 z163
  obtain ⟨rfl, M163, e163⟩ := hQ163
  have N163 := Fr.app N153 M163
  have R165 : ∀ t, Steps p.tables e below (T163.setTop (mkF m 137 #[.val (.int p1), .val (.int p2), .val (.int p3), .val (.long q4), .second, .val (.int (p1 &&& (536870911 : Int32))), .val (.int (p2 &&& (536870911 : Int32))), .val (.int (p3 &&& (536870911 : Int32))), .val (.int (p1 &&& (536870911 : Int32))), .val (.int (((p1 &&& (536870911 : Int32)) + (1 : Int32)) + (p2 &&& (536870911 : Int32)))), .val (.int (((((p1 &&& (536870911 : Int32)) + (1 : Int32)) + (p2 &&& (536870911 : Int32))) + (1 : Int32)) + (p3 &&& (536870911 : Int32)))), .val (.ref t1), .val (.ref b1), .val (.int (0 : Int32)), .val (.int ((p1 &&& (536870911 : Int32)) + (1 : Int32))), .val (.int ((((p1 &&& (536870911 : Int32)) + (1 : Int32)) + (p2 &&& (536870911 : Int32))) + (1 : Int32)))] [(.int (p1 &&& (536870911 : Int32)))])) t → Steps p.tables e below (s₁.setTop (mkF m 0 #[.val (.int p1), .val (.int p2), .val (.int p3), .val (.long q4), .second, .unset, .unset, .unset, .unset, .unset, .unset, .unset, .unset, .unset, .unset, .unset] [])) t := fun t k => R162 t (st163.trans k)
  have R166 : ∀ t, Steps p.tables e below (T163.setTop (mkF m 142 #[.val (.int p1), .val (.int p2), .val (.int p3), .val (.long q4), .second, .val (.int (p1 &&& (536870911 : Int32))), .val (.int (p2 &&& (536870911 : Int32))), .val (.int (p3 &&& (536870911 : Int32))), .val (.int (p1 &&& (536870911 : Int32))), .val (.int (((p1 &&& (536870911 : Int32)) + (1 : Int32)) + (p2 &&& (536870911 : Int32)))), .val (.int (((((p1 &&& (536870911 : Int32)) + (1 : Int32)) + (p2 &&& (536870911 : Int32))) + (1 : Int32)) + (p3 &&& (536870911 : Int32)))), .val (.ref t1), .val (.ref b1), .val (.int (0 : Int32)), .val (.int ((p1 &&& (536870911 : Int32)) + (1 : Int32))), .val (.int ((((p1 &&& (536870911 : Int32)) + (1 : Int32)) + (p2 &&& (536870911 : Int32))) + (1 : Int32)))] [(.int (p1 &&& (536870911 : Int32))), (.int ((p1 &&& (536870911 : Int32)) - (0 : Int32)))])) t → Steps p.tables e below (s₁.setTop (mkF m 0 #[.val (.int p1), .val (.int p2), .val (.int p3), .val (.long q4), .second, .unset, .unset, .unset, .unset, .unset, .unset, .unset, .unset, .unset, .unset, .unset] [])) t := by
    intro t k
    refine R165 t ?_
    refine XS.iload X163.here hx rfl (hb hby at_137) rfl ?_
    refine XS.isub X163.here hx rfl (hb hby at_139) rfl ?_
    refine XS.iload X163.here hx rfl (hb hby at_140) rfl ?_
    exact k
  have R167 : ∀ t, Steps p.tables e below (T163.setTop (mkF m 145 #[.val (.int p1), .val (.int p2), .val (.int p3), .val (.long q4), .second, .val (.int (p1 &&& (536870911 : Int32))), .val (.int (p2 &&& (536870911 : Int32))), .val (.int (p3 &&& (536870911 : Int32))), .val (.int (p1 &&& (536870911 : Int32))), .val (.int (((p1 &&& (536870911 : Int32)) + (1 : Int32)) + (p2 &&& (536870911 : Int32)))), .val (.int (((((p1 &&& (536870911 : Int32)) + (1 : Int32)) + (p2 &&& (536870911 : Int32))) + (1 : Int32)) + (p3 &&& (536870911 : Int32)))), .val (.ref t1), .val (.ref b1), .val (.int (0 : Int32)), .val (.int ((p1 &&& (536870911 : Int32)) + (1 : Int32))), .val (.int ((((p1 &&& (536870911 : Int32)) + (1 : Int32)) + (p2 &&& (536870911 : Int32))) + (1 : Int32)))] [])) t → Steps p.tables e below (s₁.setTop (mkF m 0 #[.val (.int p1), .val (.int p2), .val (.int p3), .val (.long q4), .second, .unset, .unset, .unset, .unset, .unset, .unset, .unset, .unset, .unset, .unset, .unset] [])) t := by
    intro t k
    refine R166 t ?_
    refine XS.icmpNo X163.here hx rfl (hb hby at_142) rfl (teq (Int32.sub_zero _)).2 ?_
    exact k
  have R168 : ∀ t, Steps p.tables e below (T163.setTop (mkF m 148 #[.val (.int p1), .val (.int p2), .val (.int p3), .val (.long q4), .second, .val (.int (p1 &&& (536870911 : Int32))), .val (.int (p2 &&& (536870911 : Int32))), .val (.int (p3 &&& (536870911 : Int32))), .val (.int (p1 &&& (536870911 : Int32))), .val (.int (((p1 &&& (536870911 : Int32)) + (1 : Int32)) + (p2 &&& (536870911 : Int32)))), .val (.int (((((p1 &&& (536870911 : Int32)) + (1 : Int32)) + (p2 &&& (536870911 : Int32))) + (1 : Int32)) + (p3 &&& (536870911 : Int32)))), .val (.ref t1), .val (.ref b1), .val (.int (0 : Int32)), .val (.int ((p1 &&& (536870911 : Int32)) + (1 : Int32))), .val (.int ((((p1 &&& (536870911 : Int32)) + (1 : Int32)) + (p2 &&& (536870911 : Int32))) + (1 : Int32)))] [(.int (1 : Int32)), (.ref b1)])) t → Steps p.tables e below (s₁.setTop (mkF m 0 #[.val (.int p1), .val (.int p2), .val (.int p3), .val (.long q4), .second, .unset, .unset, .unset, .unset, .unset, .unset, .unset, .unset, .unset, .unset, .unset] [])) t := by
    intro t k
    refine R167 t ?_
    refine XS.aload X163.here hx rfl (hb hby at_145) rfl rfl ?_
    refine XS.iconst X163.here hx rfl (hb hby at_147) ?_
    exact k
  obtain ⟨_, _, q170a, q170b, q170c⟩ := isOf hZ106 e163 E_141
  obtain ⟨_, _, ⟨T169, L169, k169, n169⟩, -, X169, ⟨Lc169, hQ169, l169, y169, z169⟩, st169⟩ := X163.virtualBack hx (y := (⟨"com/example/underwright/underwright/csv/CsvRecord", "end", "(I)I"⟩ : MethodName)) (z := (⟨"com/example/underwright/underwright/csv/CsvRecord", "end", "(I)I"⟩ : MethodName)) ho106 (mvT hZ106 (hw _ (List.mem_of_getElem? (i := 56) rfl))) (mvT hZ106 (hw _ (List.mem_of_getElem? (i := 57) rfl))) (notFace_of_selects (args := #[]) (mvT hZ106 (hw _ (List.mem_of_getElem? (i := 59) rfl)))) (mvT hZ106 (hw _ (List.mem_of_getElem? (i := 59) rfl))) (mvT hZ106 (hw _ (List.mem_of_getElem? (i := 58) rfl))) (by decide) (backOf (W := 0) (rm7 l Z a0 hw [] b1 (1 : Int32) t1 c81 [(.int (p1 &&& (536870911 : Int32))), (.int (((p1 &&& (536870911 : Int32)) + (1 : Int32)) + (p2 &&& (536870911 : Int32)))), (.int (((((p1 &&& (536870911 : Int32)) + (1 : Int32)) + (p2 &&& (536870911 : Int32))) + (1 : Int32)) + (p3 &&& (536870911 : Int32))))] (((p1 &&& (536870911 : Int32)) + (1 : Int32)) + (p2 &&& (536870911 : Int32))) T138.heap n0 Z138 Fe138 A_140 (by decide) rfl) hZ106 (hw _ (List.mem_of_getElem? (i := 60) rfl)) (hw _ (List.mem_of_getElem? (i := 4) rfl)) (by decide) (by decide)) q170a q170c (g := (mkF m 148 #[.val (.int p1), .val (.int p2), .val (.int p3), .val (.long q4), .second, .val (.int (p1 &&& (536870911 : Int32))), .val (.int (p2 &&& (536870911 : Int32))), .val (.int (p3 &&& (536870911 : Int32))), .val (.int (p1 &&& (536870911 : Int32))), .val (.int (((p1 &&& (536870911 : Int32)) + (1 : Int32)) + (p2 &&& (536870911 : Int32)))), .val (.int (((((p1 &&& (536870911 : Int32)) + (1 : Int32)) + (p2 &&& (536870911 : Int32))) + (1 : Int32)) + (p3 &&& (536870911 : Int32)))), .val (.ref t1), .val (.ref b1), .val (.int (0 : Int32)), .val (.int ((p1 &&& (536870911 : Int32)) + (1 : Int32))), .val (.int ((((p1 &&& (536870911 : Int32)) + (1 : Int32)) + (p2 &&& (536870911 : Int32))) + (1 : Int32)))] [(.int (1 : Int32)), (.ref b1)])) rfl (by rw [hml]; rfl) (Steps.refl _) (argsL := [(.int (1 : Int32))]) (rest := []) (lenOf pd_2 rfl) rfl (by show 2 * 0 + _ ≤ _; exact Nat.le_of_eq rfl) (hb hby at_148) (fun _ _ => ⟨rfl, e163, (by decide : 5 + 0 ≤ _), (by decide : 14 + 0 ≤ _)⟩)
  dsimp only [Pt.U, Pt.locs, Pt.cells, Pt.slots] at X169 l169 y169 z169 st169 hQ169
  subst l169 y169 z169
  obtain ⟨rfl, M169, e169⟩ := hQ169
  have N169 := Fr.app N163 M169
  have R171 : ∀ t, Steps p.tables e below (T169.setTop (mkF m 151 #[.val (.int p1), .val (.int p2), .val (.int p3), .val (.long q4), .second, .val (.int (p1 &&& (536870911 : Int32))), .val (.int (p2 &&& (536870911 : Int32))), .val (.int (p3 &&& (536870911 : Int32))), .val (.int (p1 &&& (536870911 : Int32))), .val (.int (((p1 &&& (536870911 : Int32)) + (1 : Int32)) + (p2 &&& (536870911 : Int32)))), .val (.int (((((p1 &&& (536870911 : Int32)) + (1 : Int32)) + (p2 &&& (536870911 : Int32))) + (1 : Int32)) + (p3 &&& (536870911 : Int32)))), .val (.ref t1), .val (.ref b1), .val (.int (0 : Int32)), .val (.int ((p1 &&& (536870911 : Int32)) + (1 : Int32))), .val (.int ((((p1 &&& (536870911 : Int32)) + (1 : Int32)) + (p2 &&& (536870911 : Int32))) + (1 : Int32)))] [(.int (((p1 &&& (536870911 : Int32)) + (1 : Int32)) + (p2 &&& (536870911 : Int32))))])) t → Steps p.tables e below (s₁.setTop (mkF m 0 #[.val (.int p1), .val (.int p2), .val (.int p3), .val (.long q4), .second, .unset, .unset, .unset, .unset, .unset, .unset, .unset, .unset, .unset, .unset, .unset] [])) t := fun t k => R168 t (st169.trans k)
  have R172 : ∀ t, Steps p.tables e below (T169.setTop (mkF m 156 #[.val (.int p1), .val (.int p2), .val (.int p3), .val (.long q4), .second, .val (.int (p1 &&& (536870911 : Int32))), .val (.int (p2 &&& (536870911 : Int32))), .val (.int (p3 &&& (536870911 : Int32))), .val (.int (p1 &&& (536870911 : Int32))), .val (.int (((p1 &&& (536870911 : Int32)) + (1 : Int32)) + (p2 &&& (536870911 : Int32)))), .val (.int (((((p1 &&& (536870911 : Int32)) + (1 : Int32)) + (p2 &&& (536870911 : Int32))) + (1 : Int32)) + (p3 &&& (536870911 : Int32)))), .val (.ref t1), .val (.ref b1), .val (.int (0 : Int32)), .val (.int ((p1 &&& (536870911 : Int32)) + (1 : Int32))), .val (.int ((((p1 &&& (536870911 : Int32)) + (1 : Int32)) + (p2 &&& (536870911 : Int32))) + (1 : Int32)))] [(.int (p2 &&& (536870911 : Int32))), (.int ((((p1 &&& (536870911 : Int32)) + (1 : Int32)) + (p2 &&& (536870911 : Int32))) - ((p1 &&& (536870911 : Int32)) + (1 : Int32))))])) t → Steps p.tables e below (s₁.setTop (mkF m 0 #[.val (.int p1), .val (.int p2), .val (.int p3), .val (.long q4), .second, .unset, .unset, .unset, .unset, .unset, .unset, .unset, .unset, .unset, .unset, .unset] [])) t := by
    intro t k
    refine R171 t ?_
    refine XS.iload X169.here hx rfl (hb hby at_151) rfl ?_
    refine XS.isub X169.here hx rfl (hb hby at_153) rfl ?_
    refine XS.iload X169.here hx rfl (hb hby at_154) rfl ?_
    exact k
  have R173 : ∀ t, Steps p.tables e below (T169.setTop (mkF m 159 #[.val (.int p1), .val (.int p2), .val (.int p3), .val (.long q4), .second, .val (.int (p1 &&& (536870911 : Int32))), .val (.int (p2 &&& (536870911 : Int32))), .val (.int (p3 &&& (536870911 : Int32))), .val (.int (p1 &&& (536870911 : Int32))), .val (.int (((p1 &&& (536870911 : Int32)) + (1 : Int32)) + (p2 &&& (536870911 : Int32)))), .val (.int (((((p1 &&& (536870911 : Int32)) + (1 : Int32)) + (p2 &&& (536870911 : Int32))) + (1 : Int32)) + (p3 &&& (536870911 : Int32)))), .val (.ref t1), .val (.ref b1), .val (.int (0 : Int32)), .val (.int ((p1 &&& (536870911 : Int32)) + (1 : Int32))), .val (.int ((((p1 &&& (536870911 : Int32)) + (1 : Int32)) + (p2 &&& (536870911 : Int32))) + (1 : Int32)))] [])) t → Steps p.tables e below (s₁.setTop (mkF m 0 #[.val (.int p1), .val (.int p2), .val (.int p3), .val (.long q4), .second, .unset, .unset, .unset, .unset, .unset, .unset, .unset, .unset, .unset, .unset, .unset] [])) t := by
    intro t k
    refine R172 t ?_
    refine XS.icmpNo X169.here hx rfl (hb hby at_156) rfl (teq (own_2 _ _)).2 ?_
    exact k
  have R174 : ∀ t, Steps p.tables e below (T169.setTop (mkF m 162 #[.val (.int p1), .val (.int p2), .val (.int p3), .val (.long q4), .second, .val (.int (p1 &&& (536870911 : Int32))), .val (.int (p2 &&& (536870911 : Int32))), .val (.int (p3 &&& (536870911 : Int32))), .val (.int (p1 &&& (536870911 : Int32))), .val (.int (((p1 &&& (536870911 : Int32)) + (1 : Int32)) + (p2 &&& (536870911 : Int32)))), .val (.int (((((p1 &&& (536870911 : Int32)) + (1 : Int32)) + (p2 &&& (536870911 : Int32))) + (1 : Int32)) + (p3 &&& (536870911 : Int32)))), .val (.ref t1), .val (.ref b1), .val (.int (0 : Int32)), .val (.int ((p1 &&& (536870911 : Int32)) + (1 : Int32))), .val (.int ((((p1 &&& (536870911 : Int32)) + (1 : Int32)) + (p2 &&& (536870911 : Int32))) + (1 : Int32)))] [(.int (2 : Int32)), (.ref b1)])) t → Steps p.tables e below (s₁.setTop (mkF m 0 #[.val (.int p1), .val (.int p2), .val (.int p3), .val (.long q4), .second, .unset, .unset, .unset, .unset, .unset, .unset, .unset, .unset, .unset, .unset, .unset] [])) t := by
    intro t k
    refine R173 t ?_
    refine XS.aload X169.here hx rfl (hb hby at_159) rfl rfl ?_
    refine XS.iconst X169.here hx rfl (hb hby at_161) ?_
    exact k
  obtain ⟨_, _, q176a, q176b, q176c⟩ := isOf hZ106 e169 E_141
  obtain ⟨_, _, ⟨T175, L175, k175, n175⟩, -, X175, ⟨Lc175, hQ175, l175, y175, z175⟩, st175⟩ := X169.virtualBack hx (y := (⟨"com/example/underwright/underwright/csv/CsvRecord", "end", "(I)I"⟩ : MethodName)) (z := (⟨"com/example/underwright/underwright/csv/CsvRecord", "end", "(I)I"⟩ : MethodName)) ho106 (mvT hZ106 (hw _ (List.mem_of_getElem? (i := 56) rfl))) (mvT hZ106 (hw _ (List.mem_of_getElem? (i := 57) rfl))) (notFace_of_selects (args := #[]) (mvT hZ106 (hw _ (List.mem_of_getElem? (i := 59) rfl)))) (mvT hZ106 (hw _ (List.mem_of_getElem? (i := 59) rfl))) (mvT hZ106 (hw _ (List.mem_of_getElem? (i := 58) rfl))) (by decide) (backOf (W := 0) (rm7 l Z a0 hw [] b1 (2 : Int32) t1 c81 [(.int (p1 &&& (536870911 : Int32))), (.int (((p1 &&& (536870911 : Int32)) + (1 : Int32)) + (p2 &&& (536870911 : Int32)))), (.int (((((p1 &&& (536870911 : Int32)) + (1 : Int32)) + (p2 &&& (536870911 : Int32))) + (1 : Int32)) + (p3 &&& (536870911 : Int32))))] (((((p1 &&& (536870911 : Int32)) + (1 : Int32)) + (p2 &&& (536870911 : Int32))) + (1 : Int32)) + (p3 &&& (536870911 : Int32))) T138.heap n0 Z138 Fe138 A_140 (by decide) rfl) hZ106 (hw _ (List.mem_of_getElem? (i := 60) rfl)) (hw _ (List.mem_of_getElem? (i := 4) rfl)) (by decide) (by decide)) q176a q176c (g := (mkF m 162 #[.val (.int p1), .val (.int p2), .val (.int p3), .val (.long q4), .second, .val (.int (p1 &&& (536870911 : Int32))), .val (.int (p2 &&& (536870911 : Int32))), .val (.int (p3 &&& (536870911 : Int32))), .val (.int (p1 &&& (536870911 : Int32))), .val (.int (((p1 &&& (536870911 : Int32)) + (1 : Int32)) + (p2 &&& (536870911 : Int32)))), .val (.int (((((p1 &&& (536870911 : Int32)) + (1 : Int32)) + (p2 &&& (536870911 : Int32))) + (1 : Int32)) + (p3 &&& (536870911 : Int32)))), .val (.ref t1), .val (.ref b1), .val (.int (0 : Int32)), .val (.int ((p1 &&& (536870911 : Int32)) + (1 : Int32))), .val (.int ((((p1 &&& (536870911 : Int32)) + (1 : Int32)) + (p2 &&& (536870911 : Int32))) + (1 : Int32)))] [(.int (2 : Int32)), (.ref b1)])) rfl (by rw [hml]; rfl) (Steps.refl _) (argsL := [(.int (2 : Int32))]) (rest := []) (lenOf pd_2 rfl) rfl (by show 2 * 0 + _ ≤ _; exact Nat.le_of_eq rfl) (hb hby at_162) (fun _ _ => ⟨rfl, e169, (by decide : 5 + 0 ≤ _), (by decide : 14 + 0 ≤ _)⟩)
  dsimp only [Pt.U, Pt.locs, Pt.cells, Pt.slots] at X175 l175 y175 z175 st175 hQ175
  subst l175 y175 z175
  obtain ⟨rfl, M175, e175⟩ := hQ175
  have N175 := Fr.app N169 M175
  have R177 : ∀ t, Steps p.tables e below (T175.setTop (mkF m 165 #[.val (.int p1), .val (.int p2), .val (.int p3), .val (.long q4), .second, .val (.int (p1 &&& (536870911 : Int32))), .val (.int (p2 &&& (536870911 : Int32))), .val (.int (p3 &&& (536870911 : Int32))), .val (.int (p1 &&& (536870911 : Int32))), .val (.int (((p1 &&& (536870911 : Int32)) + (1 : Int32)) + (p2 &&& (536870911 : Int32)))), .val (.int (((((p1 &&& (536870911 : Int32)) + (1 : Int32)) + (p2 &&& (536870911 : Int32))) + (1 : Int32)) + (p3 &&& (536870911 : Int32)))), .val (.ref t1), .val (.ref b1), .val (.int (0 : Int32)), .val (.int ((p1 &&& (536870911 : Int32)) + (1 : Int32))), .val (.int ((((p1 &&& (536870911 : Int32)) + (1 : Int32)) + (p2 &&& (536870911 : Int32))) + (1 : Int32)))] [(.int (((((p1 &&& (536870911 : Int32)) + (1 : Int32)) + (p2 &&& (536870911 : Int32))) + (1 : Int32)) + (p3 &&& (536870911 : Int32))))])) t → Steps p.tables e below (s₁.setTop (mkF m 0 #[.val (.int p1), .val (.int p2), .val (.int p3), .val (.long q4), .second, .unset, .unset, .unset, .unset, .unset, .unset, .unset, .unset, .unset, .unset, .unset] [])) t := fun t k => R174 t (st175.trans k)
  have R178 : ∀ t, Steps p.tables e below (T175.setTop (mkF m 170 #[.val (.int p1), .val (.int p2), .val (.int p3), .val (.long q4), .second, .val (.int (p1 &&& (536870911 : Int32))), .val (.int (p2 &&& (536870911 : Int32))), .val (.int (p3 &&& (536870911 : Int32))), .val (.int (p1 &&& (536870911 : Int32))), .val (.int (((p1 &&& (536870911 : Int32)) + (1 : Int32)) + (p2 &&& (536870911 : Int32)))), .val (.int (((((p1 &&& (536870911 : Int32)) + (1 : Int32)) + (p2 &&& (536870911 : Int32))) + (1 : Int32)) + (p3 &&& (536870911 : Int32)))), .val (.ref t1), .val (.ref b1), .val (.int (0 : Int32)), .val (.int ((p1 &&& (536870911 : Int32)) + (1 : Int32))), .val (.int ((((p1 &&& (536870911 : Int32)) + (1 : Int32)) + (p2 &&& (536870911 : Int32))) + (1 : Int32)))] [(.int (p3 &&& (536870911 : Int32))), (.int ((((((p1 &&& (536870911 : Int32)) + (1 : Int32)) + (p2 &&& (536870911 : Int32))) + (1 : Int32)) + (p3 &&& (536870911 : Int32))) - ((((p1 &&& (536870911 : Int32)) + (1 : Int32)) + (p2 &&& (536870911 : Int32))) + (1 : Int32))))])) t → Steps p.tables e below (s₁.setTop (mkF m 0 #[.val (.int p1), .val (.int p2), .val (.int p3), .val (.long q4), .second, .unset, .unset, .unset, .unset, .unset, .unset, .unset, .unset, .unset, .unset, .unset] [])) t := by
    intro t k
    refine R177 t ?_
    refine XS.iload X175.here hx rfl (hb hby at_165) rfl ?_
    refine XS.isub X175.here hx rfl (hb hby at_167) rfl ?_
    refine XS.iload X175.here hx rfl (hb hby at_168) rfl ?_
    exact k
  have R179 : ∀ t, Steps p.tables e below (T175.setTop (mkF m 173 #[.val (.int p1), .val (.int p2), .val (.int p3), .val (.long q4), .second, .val (.int (p1 &&& (536870911 : Int32))), .val (.int (p2 &&& (536870911 : Int32))), .val (.int (p3 &&& (536870911 : Int32))), .val (.int (p1 &&& (536870911 : Int32))), .val (.int (((p1 &&& (536870911 : Int32)) + (1 : Int32)) + (p2 &&& (536870911 : Int32)))), .val (.int (((((p1 &&& (536870911 : Int32)) + (1 : Int32)) + (p2 &&& (536870911 : Int32))) + (1 : Int32)) + (p3 &&& (536870911 : Int32)))), .val (.ref t1), .val (.ref b1), .val (.int (0 : Int32)), .val (.int ((p1 &&& (536870911 : Int32)) + (1 : Int32))), .val (.int ((((p1 &&& (536870911 : Int32)) + (1 : Int32)) + (p2 &&& (536870911 : Int32))) + (1 : Int32)))] [])) t → Steps p.tables e below (s₁.setTop (mkF m 0 #[.val (.int p1), .val (.int p2), .val (.int p3), .val (.long q4), .second, .unset, .unset, .unset, .unset, .unset, .unset, .unset, .unset, .unset, .unset, .unset] [])) t := by
    intro t k
    refine R178 t ?_
    refine XS.icmpNo X175.here hx rfl (hb hby at_170) rfl (teq (own_2 _ _)).2 ?_
    exact k
  have R180 : ∀ t, Steps p.tables e below (T175.setTop (mkF m 178 #[.val (.int p1), .val (.int p2), .val (.int p3), .val (.long q4), .second, .val (.int (p1 &&& (536870911 : Int32))), .val (.int (p2 &&& (536870911 : Int32))), .val (.int (p3 &&& (536870911 : Int32))), .val (.int (p1 &&& (536870911 : Int32))), .val (.int (((p1 &&& (536870911 : Int32)) + (1 : Int32)) + (p2 &&& (536870911 : Int32)))), .val (.int (((((p1 &&& (536870911 : Int32)) + (1 : Int32)) + (p2 &&& (536870911 : Int32))) + (1 : Int32)) + (p3 &&& (536870911 : Int32)))), .val (.ref t1), .val (.ref b1), .val (.int (0 : Int32)), .val (.int ((p1 &&& (536870911 : Int32)) + (1 : Int32))), .val (.int ((((p1 &&& (536870911 : Int32)) + (1 : Int32)) + (p2 &&& (536870911 : Int32))) + (1 : Int32)))] [(.int (1 : Int32))])) t → Steps p.tables e below (s₁.setTop (mkF m 0 #[.val (.int p1), .val (.int p2), .val (.int p3), .val (.long q4), .second, .unset, .unset, .unset, .unset, .unset, .unset, .unset, .unset, .unset, .unset, .unset] [])) t := by
    intro t k
    refine R179 t ?_
    refine XS.iconst X175.here hx rfl (hb hby at_173) ?_
    refine XS.goto X175.here hx rfl (pc0 := 174) (pc' := 178) rfl (hb hby at_174) (by decide) (by decide) ?_
    exact k
  obtain ⟨fs, hr, hrun, hended, hv1, hv2, hv3, hv4⟩ := X175.leaveW hS106 (by rw [show T175.heap = T138.heap from e175]; exact Y138) (v := some (.int (1 : Int32))) (fun h => by rw [Bd.returns] at h; cases h)
  refine ⟨_, _, pre0 _ (R180 _ (retN X175 hx (t := .boolean) Bd.returns (by simp) (hb hby at_178) hr)), hrun, hended, _, _, rfl, ?_, hv1, hv2, hv3, hv4.mono (by decide) (by decide)⟩
  show Q_rm0 Z p1 p2 p3 q4 dc h0 n0 _ T175.heap _
  rw [e175]
  exact ⟨rfl, N175⟩
set_option maxRecDepth 65536 in
set_option maxHeartbeats 40000000 in
theorem comes_1 {Post : Tables → Env → Array Value → State → Outcome → State → Prop} (hpost : ∀ tb e args s v u, (limb_1_1.after args s (.returned v) u = true ∧ limb_1_2.after args s (.returned v) u = true ∧ True) → ReturnedEndW s (.returned v) u (Jvm.fieldLocs frame_1_writes args s ++ Jvm.arrayLocs frame_1_arrays args s ++ Jvm.staticLocs frame_1_statics s) 16 1152 → Post tb e args s (.returned v) u) :
    ArmFor flags0 classFile x code maxLocals ret World_1 tables_1 room_1 Calls_1 rest_1 Pre_1 Post := by
  intro l hfl _ _ p e ha hc hk s m args below hf hA hF happ hP
  obtain ⟨hcalls, hrest, hpre⟩ := hP
  obtain ⟨-, -, -, hnamed, -, -, -, hat⟩ := (Spec.applies_iff hf).mp happ
  obtain ⟨hg, hn⟩ := and_e (Cond.before_iff.mp (show (Jvm.Cond.and given_1 narrow_1).before args s = true from hpre))
  obtain ⟨g0, r0⟩ := and_e hg
  obtain ⟨g1, r1⟩ := and_e r0
  obtain ⟨g2, r2⟩ := and_e r1
  obtain ⟨g3, r3⟩ := and_e r2
  obtain ⟨w0, w1, w2, w3, rfl⟩ : ∃ w0 w1 w2 w3 : Value, args = #[w0, w1, w2, w3] := by
    have hs : args.size = 4 := by simpa [Cond.value, given_1] using g0
    obtain ⟨L⟩ := args
    match L, hs with
    | [w0, w1, w2, w3], _ => exact ⟨w0, w1, w2, w3, rfl⟩
  have hw := fun d (hd : d ∈ tables_1) => atoms_spec (ws := Jvm.Cond.code x code maxLocals ret :: tables_1) hat d (List.mem_cons_of_mem _ hd)
  have hfit : Fit s := fun {y c} hc i hi => by
    obtain ⟨ha, rfl⟩ := Array.getElem?_eq_some_iff.mp hc
    have q := List.all_eq_true.mp ((Array.all_eq_true_iff_forall_mem.mp hF) _ (Array.getElem_mem ha)) i (List.mem_range.mpr hi)
    simpa [Array.getElem?_eq_getElem hi] using q
  obtain ⟨i0, ei0⟩ := is_v g1
  obtain rfl : w0 = (.int i0) := Option.some.inj ei0
  obtain ⟨i1, ei1⟩ := is_v g2
  obtain rfl : w1 = (.int i1) := Option.some.inj ei1
  obtain ⟨i2, ei2⟩ := is_v g3
  obtain rfl : w2 = (.int i2) := Option.some.inj ei2
  obtain ⟨i3, ei3⟩ := isL_v r3
  obtain rfl : w3 = (.long i3) := Option.some.inj ei3
  have hsets := (atoms_of jdkStatics_1 (show (jdkStatics_1.foldr Jvm.Cond.and restOwn_1).before _ s = true from hrest)).1
  obtain ⟨dc, edc, hdc⟩ := static_fit hfit (hsets _ (List.mem_of_getElem? (i := 2) rfl)) (ty := .array (.object "java/lang/Object")) (by decide)
  have S0 := Sta.start edc (Or.inr ⟨hw _ (List.mem_of_getElem? (i := 15) rfl), hsets _ (List.mem_of_getElem? (i := 2) rfl)⟩)
  obtain ⟨n, o, h1, h2, h3, _, L, rfl, ⟨rfl, N⟩, hq⟩ := rm0 l s _ hw tables_1 i0 i1 i2 i3 dc s.heap s.heap.size (Nat.le_refl _) S0 hdc p e ha hc hk s m _ below hf ((Spec.applies_iff_loose hf).mp happ).1 ⟨rfl, State.Warmed39.refl s, rfl⟩ trivial
  refine ⟨n, _, h1, h2, h3, hpost _ _ _ _ _ _ ⟨Cond.after_iff.mpr rfl, Cond.after_iff.mpr (eq_i res_at (Term.int_eval (1)) rfl), trivial⟩ ⟨hq.1, hq.2.1, hq.2.2.1, (hq.2.2.2.sift fun y hy => Or.inr (N y hy)).mono (by decide) (by decide)⟩⟩
theorem main_1_1 : Claimed_1_1 := comes_1 fun _ _ _ _ _ _ h hF => ⟨h.1, hF⟩
theorem main_1_2 : Claimed_1_2 := comes_1 fun _ _ _ _ _ _ h hF => ⟨h.2.1, hF⟩
end Jvm.Pilot.@@N@@
namespace Jvm.Pilot.@@N@@
open Jvm Jvm.ClassFile Sem Op Lib Jvm.Free Jvm.Stand Jvm.Pilot.@@N@@.Jvm.D
/-! MADE BY PROGRAM (witnessworld.py) out of the Statement's table words and the real class files: 23 classes; the members and pool entries that the words name. The judged class is class 1, her method 1. -/
namespace start1
open Jvm.ClassFile
def u (s : String) : CpInfo := .utf8 (stringToUtf16 s)
/-- a pool by its gaps: so many unusable entries, then the entry; so many at the end -/
def gap : Nat → List CpInfo → List CpInfo
  | 0, r => r
  | n + 1, r => .unusable :: gap n r
def poolList (es : List (Nat × CpInfo)) (last : Nat) : List CpInfo := es.foldr (fun e r => gap e.1 (e.2 :: r)) (gap last [])
def pool (es : List (Nat × CpInfo)) (last : Nat) : Array CpInfo := ⟨poolList es last⟩
def fileOf (pool : Array CpInfo) (this : Nat) (attrs : Array Attribute := #[]) (ms : Array MethodInfo := #[]) (fl : Nat := 33) (sup : Nat := 0) (ifs : Array Nat := #[]) (fds : Array FieldInfo := #[]) : ClassFile where
  minorVersion := 0
  majorVersion := 65
  constantPool := pool
  accessFlags := fl
  thisClass := this
  superClass := sup
  interfaces := ifs
  fields := fds
  methods := ms
  attributes := attrs
def plain (name : String) (sup : Option ClassId) : Class where
  name := name
  kind := .ordinary
  loader := none
  accessFlags := 33
  super := sup
  interfaces := #[]
  cf := none
  fields := #[]
  methods := #[]
  instanceTypes := #[]
  staticTypes := #[]
  resolved := #[]
  callSites := []
  init := .initialized
  statics := none
  mirror := none

def pool0 : Array CpInfo := pool [(5, u "<init>"), (0, u "()V"), (1, .class_ 10), (1, u "java/lang/Object")] 113

def k0c0 : Code := { maxStack := 0, maxLocals := 1, code := object_method_1_code, exceptionTable := #[], attributes := #[] }
def k0m0 : Method := { name := "<init>", desc := "()V", sig := { parameters := [], returnType := none }, accessFlags := 1, code := some k0c0 }
/-- java/lang/Object -/
def k0 : Class := { plain "java/lang/Object" none with
  accessFlags := 33
  interfaces := #[]
  cf := some (fileOf pool0 8 #[] #[{ accessFlags := 1, nameIndex := 5, descriptorIndex := 6, attributes := #[] }] 33 0 #[] #[])
  fields := #[]
  methods := #[k0m0]
  instanceTypes := #[]
  staticTypes := #[]
  resolved := Array.replicate 124 none
  statics := none }

def pool1 : Array CpInfo := pool [(2, .class_ 4), (0, .nameAndType 5 6), (0, u "java/lang/Object"), (0, u "<init>"), (0, u "()V"), (0, .integer 536870911), (0, .class_ 9), (0, u "com/example/underwright/underwright/csv/CsvRecord"), (0, .string 11), (0, u ""), (0, .class_ 13), (0, u "java/util/ArrayList"), (0, .methodref 12 3), (0, .methodref 8 16), (0, .nameAndType 5 17), (0, u "(JLjava/lang/String;[ILjava/util/List;)V"), (0, .methodref 8 19), (0, .nameAndType 20 21), (0, u "start"), (0, u "(I)I"), (0, .methodref 8 23), (0, .nameAndType 24 21), (0, u "end"), (0, .class_ 26), (0, u "com/example/underwright/underwright/csv/CsvRecordStartPinLaw"), (2, u "law"), (0, u "(IIIJ)Z")] 5

def k1m0 : Method := { name := "<init>", desc := "()V", sig := { parameters := [], returnType := none }, accessFlags := 1, code := none }
def k1c1 : Code := { maxStack := 8, maxLocals := 16, code := code, exceptionTable := #[], attributes := #[] }
def k1m1 : Method := { name := "law", desc := "(IIIJ)Z", sig := { parameters := [.int, .int, .int, .long], returnType := some .boolean }, accessFlags := 9, code := some k1c1 }
/-- com/example/underwright/underwright/csv/CsvRecordStartPinLaw -/
def k1 : Class := { plain "com/example/underwright/underwright/csv/CsvRecordStartPinLaw" (some 0) with
  accessFlags := 49
  interfaces := #[]
  cf := some (fileOf pool1 25 #[] #[{ accessFlags := 1, nameIndex := 5, descriptorIndex := 6, attributes := #[] }, { accessFlags := 9, nameIndex := 29, descriptorIndex := 30, attributes := #[] }] 49 2 #[] #[])
  fields := #[]
  methods := #[k1m0, k1m1]
  instanceTypes := #[]
  staticTypes := #[]
  resolved := Array.replicate 36 none
  statics := none }

def pool2 : Array CpInfo := pool [(1, .methodref 2 3), (0, .class_ 4), (0, .nameAndType 5 6), (0, u "java/lang/Object"), (0, u "<init>"), (0, u "()V"), (0, .fieldref 8 9), (0, .class_ 10), (0, .nameAndType 11 12), (0, u "com/example/underwright/underwright/csv/CsvRecord"), (0, u "line"), (0, u "J"), (0, .fieldref 8 14), (0, .nameAndType 15 16), (0, u "text"), (0, u "Ljava/lang/String;"), (0, .fieldref 8 18), (0, .nameAndType 19 20), (0, u "ends"), (0, u "[I"), (0, .fieldref 8 22), (0, .nameAndType 23 24), (0, u "malformed"), (0, u "Ljava/util/List;"), (2, u "start"), (0, u "(I)I"), (2, u "end"), (6, .class_ 39), (0, u "com/example/underwright/underwright/csv/CsvRecord$Fields"), (5, u "(JLjava/lang/String;[ILjava/util/List;)V")] 19

def k2c0 : Code := { maxStack := 3, maxLocals := 6, code := prog_2_method_1_code, exceptionTable := #[], attributes := #[] }
def k2m0 : Method := { name := "<init>", desc := "(JLjava/lang/String;[ILjava/util/List;)V", sig := { parameters := [.long, (.object "java/lang/String"), (.array .int), (.object "java/util/List")], returnType := none }, accessFlags := 0, code := some k2c0 }
def k2c1 : Code := { maxStack := 3, maxLocals := 2, code := prog_2_method_8_code, exceptionTable := #[], attributes := #[] }
def k2m1 : Method := { name := "start", desc := "(I)I", sig := { parameters := [.int], returnType := some .int }, accessFlags := 1, code := some k2c1 }
def k2c2 : Code := { maxStack := 2, maxLocals := 2, code := prog_2_method_9_code, exceptionTable := #[], attributes := #[] }
def k2m2 : Method := { name := "end", desc := "(I)I", sig := { parameters := [.int], returnType := some .int }, accessFlags := 1, code := some k2c2 }
/-- com/example/underwright/underwright/csv/CsvRecord -/
def k2 : Class := { plain "com/example/underwright/underwright/csv/CsvRecord" (some 0) with
  accessFlags := 49
  interfaces := #[]
  cf := some (fileOf pool2 8 #[.nestMembers #[38]] #[{ accessFlags := 0, nameIndex := 5, descriptorIndex := 45, attributes := #[] }, { accessFlags := 1, nameIndex := 27, descriptorIndex := 28, attributes := #[] }, { accessFlags := 1, nameIndex := 31, descriptorIndex := 28, attributes := #[] }] 49 2 #[] #[{ accessFlags := 18, nameIndex := 11, descriptorIndex := 12, attributes := #[] }, { accessFlags := 18, nameIndex := 15, descriptorIndex := 16, attributes := #[] }, { accessFlags := 18, nameIndex := 19, descriptorIndex := 20, attributes := #[] }, { accessFlags := 18, nameIndex := 23, descriptorIndex := 24, attributes := #[] }])
  fields := #[{ name := "line", type := .long, accessFlags := 18, slot := 0, constantValue := 0 }, { name := "text", type := (.object "java/lang/String"), accessFlags := 18, slot := 1, constantValue := 0 }, { name := "ends", type := (.array .int), accessFlags := 18, slot := 2, constantValue := 0 }, { name := "malformed", type := (.object "java/util/List"), accessFlags := 18, slot := 3, constantValue := 0 }]
  methods := #[k2m0, k2m1, k2m2]
  instanceTypes := #[.long, (.object "java/lang/String"), (.array .int), (.object "java/util/List")]
  staticTypes := #[]
  resolved := Array.replicate 65 none
  statics := none }

def pool3 : Array CpInfo := pool [(1, .class_ 2), (0, u "java/io/Serializable"), (0, .class_ 4), (0, u "java/lang/Object")] 2

/-- java/io/Serializable -/
def k3 : Class := { plain "java/io/Serializable" (some 0) with
  accessFlags := 1537
  interfaces := #[]
  cf := some (fileOf pool3 1 #[] #[] 1537 3 #[] #[])
  fields := #[]
  methods := #[]
  instanceTypes := #[]
  staticTypes := #[]
  resolved := Array.replicate 7 none
  statics := none }

def pool4 : Array CpInfo := pool [(1, .class_ 2), (0, u "java/lang/Comparable"), (0, .class_ 4), (0, u "java/lang/Object")] 7

/-- java/lang/Comparable -/
def k4 : Class := { plain "java/lang/Comparable" (some 0) with
  accessFlags := 1537
  interfaces := #[]
  cf := some (fileOf pool4 1 #[] #[] 1537 3 #[] #[])
  fields := #[]
  methods := #[]
  instanceTypes := #[]
  staticTypes := #[]
  resolved := Array.replicate 12 none
  statics := none }

def pool5 : Array CpInfo := pool [(2, .class_ 4), (1, u "java/lang/CharSequence"), (42, .class_ 48), (0, u "java/lang/CharSequence$1CodePointIterator"), (10, .class_ 60), (0, u "java/lang/CharSequence$1CharIterator"), (5, .class_ 67), (0, u "java/lang/Object")] 63

/-- java/lang/CharSequence -/
def k5 : Class := { plain "java/lang/CharSequence" (some 0) with
  accessFlags := 1537
  interfaces := #[]
  cf := some (fileOf pool5 2 #[.nestMembers #[47, 59]] #[] 1537 66 #[] #[])
  fields := #[]
  methods := #[]
  instanceTypes := #[]
  staticTypes := #[]
  resolved := Array.replicate 131 none
  statics := none }

def pool6 : Array CpInfo := pool [(1, .class_ 2), (0, u "java/lang/constant/Constable"), (0, .class_ 4), (0, u "java/lang/Object")] 6

/-- java/lang/constant/Constable -/
def k6 : Class := { plain "java/lang/constant/Constable" (some 0) with
  accessFlags := 1537
  interfaces := #[]
  cf := some (fileOf pool6 1 #[] #[] 1537 3 #[] #[])
  fields := #[]
  methods := #[]
  instanceTypes := #[]
  staticTypes := #[]
  resolved := Array.replicate 11 none
  statics := none }

def pool7 : Array CpInfo := pool [(1, .class_ 2), (0, u "java/lang/constant/ConstantDesc"), (0, .class_ 4), (0, u "java/lang/Object")] 32

/-- java/lang/constant/ConstantDesc -/
def k7 : Class := { plain "java/lang/constant/ConstantDesc" (some 0) with
  accessFlags := 1537
  interfaces := #[]
  cf := some (fileOf pool7 1 #[] #[] 1537 3 #[] #[])
  fields := #[]
  methods := #[]
  instanceTypes := #[]
  staticTypes := #[]
  resolved := Array.replicate 37 none
  statics := none }

def pool8 : Array CpInfo := pool [(2, .class_ 4), (1, u "java/lang/Object"), (0, u "<init>"), (0, u "()V"), (3, .class_ 12), (1, u "java/lang/String"), (0, u "value"), (0, u "[B"), (2, u "coder"), (0, u "B"), (2, u "hash"), (0, u "I"), (2, u "hashIsZero"), (0, u "Z"), (13, u "COMPACT_STRINGS"), (534, .class_ 576), (0, u "java/lang/CharSequence"), (22, u "CASE_INSENSITIVE_ORDER"), (0, u "Ljava/util/Comparator;"), (500, u "serialPersistentFields"), (0, u "[Ljava/io/ObjectStreamField;"), (0, .class_ 1104), (0, u "java/lang/String$CaseInsensitiveComparator"), (1, .class_ 1107), (0, u "java/io/Serializable"), (0, .class_ 1109), (0, u "java/lang/Comparable"), (0, .class_ 1111), (0, u "java/lang/constant/Constable"), (0, .class_ 1113), (0, u "java/lang/constant/ConstantDesc"), (2, u "serialVersionUID"), (0, u "J"), (3, u "REPL"), (0, u "C"), (2, u "LATIN1"), (1, u "UTF16")] 323

def k8m0 : Method := { name := "<init>", desc := "()V", sig := { parameters := [], returnType := none }, accessFlags := 1, code := none }
/-- java/lang/String -/
def k8 : Class := { plain "java/lang/String" (some 0) with
  accessFlags := 49
  interfaces := #[3, 4, 5, 6, 7]
  cf := some (fileOf pool8 10 #[.nestMembers #[1103]] #[{ accessFlags := 1, nameIndex := 5, descriptorIndex := 6, attributes := #[] }] 49 2 #[1106, 1108, 575, 1110, 1112] #[{ accessFlags := 18, nameIndex := 13, descriptorIndex := 14, attributes := #[] }, { accessFlags := 18, nameIndex := 17, descriptorIndex := 18, attributes := #[] }, { accessFlags := 2, nameIndex := 21, descriptorIndex := 22, attributes := #[] }, { accessFlags := 2, nameIndex := 25, descriptorIndex := 26, attributes := #[] }, { accessFlags := 26, nameIndex := 1116, descriptorIndex := 1117, attributes := #[] }, { accessFlags := 24, nameIndex := 40, descriptorIndex := 26, attributes := #[] }, { accessFlags := 26, nameIndex := 1101, descriptorIndex := 1102, attributes := #[] }, { accessFlags := 26, nameIndex := 1121, descriptorIndex := 1122, attributes := #[] }, { accessFlags := 25, nameIndex := 599, descriptorIndex := 600, attributes := #[] }, { accessFlags := 24, nameIndex := 1125, descriptorIndex := 18, attributes := #[] }, { accessFlags := 24, nameIndex := 1127, descriptorIndex := 18, attributes := #[] }])
  fields := #[{ name := "value", type := (.array .byte), accessFlags := 18, slot := 0, constantValue := 0 }, { name := "coder", type := .byte, accessFlags := 18, slot := 1, constantValue := 0 }, { name := "hash", type := .int, accessFlags := 2, slot := 2, constantValue := 0 }, { name := "hashIsZero", type := .boolean, accessFlags := 2, slot := 3, constantValue := 0 }, { name := "serialVersionUID", type := .long, accessFlags := 26, slot := 0, constantValue := 0 }, { name := "COMPACT_STRINGS", type := .boolean, accessFlags := 24, slot := 1, constantValue := 0 }, { name := "serialPersistentFields", type := (.array (.object "java/io/ObjectStreamField")), accessFlags := 26, slot := 2, constantValue := 0 }, { name := "REPL", type := .char, accessFlags := 26, slot := 3, constantValue := 0 }, { name := "CASE_INSENSITIVE_ORDER", type := (.object "java/util/Comparator"), accessFlags := 25, slot := 4, constantValue := 0 }, { name := "LATIN1", type := .byte, accessFlags := 24, slot := 5, constantValue := 0 }, { name := "UTF16", type := .byte, accessFlags := 24, slot := 6, constantValue := 0 }]
  methods := #[k8m0]
  instanceTypes := #[(.array .byte), .byte, .int, .boolean]
  staticTypes := #[.long, .boolean, (.array (.object "java/io/ObjectStreamField")), .char, (.object "java/util/Comparator"), .byte, .byte]
  resolved := Array.replicate 1451 none
  statics := none }

def pool9 : Array CpInfo := pool [(8, .class_ 10), (1, u "java/lang/Iterable"), (24, .class_ 36), (0, u "java/lang/Object")] 25

/-- java/lang/Iterable -/
def k9 : Class := { plain "java/lang/Iterable" (some 0) with
  accessFlags := 1537
  interfaces := #[]
  cf := some (fileOf pool9 8 #[] #[] 1537 35 #[] #[])
  fields := #[]
  methods := #[]
  instanceTypes := #[]
  staticTypes := #[]
  resolved := Array.replicate 62 none
  statics := none }

def pool10 : Array CpInfo := pool [(10, .class_ 12), (1, u "java/util/Collection"), (47, .class_ 61), (0, u "java/lang/Object"), (0, .class_ 63), (0, u "java/lang/Iterable")] 51

/-- java/util/Collection -/
def k10 : Class := { plain "java/util/Collection" (some 0) with
  accessFlags := 1537
  interfaces := #[9]
  cf := some (fileOf pool10 10 #[] #[] 1537 60 #[62] #[])
  fields := #[]
  methods := #[]
  instanceTypes := #[]
  staticTypes := #[]
  resolved := Array.replicate 115 none
  statics := none }

def pool11 : Array CpInfo := pool [(1, .methodref 2 3), (0, .class_ 4), (0, .nameAndType 5 6), (0, u "java/lang/Object"), (0, u "<init>"), (0, u "()V"), (1, .class_ 10), (1, u "java/util/AbstractCollection"), (66, .class_ 78), (0, u "java/util/Collection")] 81

def k11c0 : Code := { maxStack := 1, maxLocals := 1, code := jdk_22_method_1_code, exceptionTable := #[], attributes := #[] }
def k11m0 : Method := { name := "<init>", desc := "()V", sig := { parameters := [], returnType := none }, accessFlags := 4, code := some k11c0 }
/-- java/util/AbstractCollection -/
def k11 : Class := { plain "java/util/AbstractCollection" (some 0) with
  accessFlags := 1057
  interfaces := #[10]
  cf := some (fileOf pool11 8 #[] #[{ accessFlags := 4, nameIndex := 5, descriptorIndex := 6, attributes := #[] }] 1057 2 #[77] #[])
  fields := #[]
  methods := #[k11m0]
  instanceTypes := #[]
  staticTypes := #[]
  resolved := Array.replicate 160 none
  statics := none }

def pool12 : Array CpInfo := pool [(8, .class_ 10), (1, u "java/util/SequencedCollection"), (15, .class_ 27), (0, u "java/lang/Object"), (0, .class_ 29), (0, u "java/util/Collection")] 27

/-- java/util/SequencedCollection -/
def k12 : Class := { plain "java/util/SequencedCollection" (some 0) with
  accessFlags := 1537
  interfaces := #[10]
  cf := some (fileOf pool12 8 #[] #[] 1537 26 #[28] #[])
  fields := #[]
  methods := #[]
  instanceTypes := #[]
  staticTypes := #[]
  resolved := Array.replicate 57 none
  statics := none }

def pool13 : Array CpInfo := pool [(8, .class_ 10), (1, u "java/util/List"), (92, .class_ 104), (0, u "java/lang/Object"), (15, .class_ 121), (0, u "java/util/SequencedCollection")] 129

/-- java/util/List -/
def k13 : Class := { plain "java/util/List" (some 0) with
  accessFlags := 1537
  interfaces := #[12]
  cf := some (fileOf pool13 8 #[] #[] 1537 103 #[120] #[])
  fields := #[]
  methods := #[]
  instanceTypes := #[]
  staticTypes := #[]
  resolved := Array.replicate 251 none
  statics := none }

def pool14 : Array CpInfo := pool [(1, .methodref 2 3), (0, .class_ 4), (0, .nameAndType 5 6), (0, u "java/util/AbstractCollection"), (0, u "<init>"), (0, u "()V"), (0, .fieldref 8 9), (0, .class_ 10), (0, .nameAndType 11 12), (0, u "java/util/AbstractList"), (0, u "modCount"), (0, u "I"), (64, .class_ 78), (0, u "java/util/AbstractList$Itr"), (3, .class_ 83), (0, u "java/util/AbstractList$ListItr"), (9, .class_ 94), (0, u "java/util/AbstractList$RandomAccessSubList"), (3, .class_ 99), (0, u "java/util/AbstractList$SubList"), (33, .class_ 134), (0, u "java/util/List"), (73, .class_ 209), (0, u "java/util/AbstractList$SubList$1"), (0, .class_ 211), (0, u "java/util/AbstractList$RandomAccessSpliterator")] 6

def k14c0 : Code := { maxStack := 2, maxLocals := 1, code := jdk_39_method_1_code, exceptionTable := #[], attributes := #[] }
def k14m0 : Method := { name := "<init>", desc := "()V", sig := { parameters := [], returnType := none }, accessFlags := 4, code := some k14c0 }
/-- java/util/AbstractList -/
def k14 : Class := { plain "java/util/AbstractList" (some 11) with
  accessFlags := 1057
  interfaces := #[13]
  cf := some (fileOf pool14 8 #[.nestMembers #[93, 98, 208, 210, 82, 77]] #[{ accessFlags := 4, nameIndex := 5, descriptorIndex := 6, attributes := #[] }] 1057 2 #[133] #[{ accessFlags := 132, nameIndex := 11, descriptorIndex := 12, attributes := #[] }])
  fields := #[{ name := "modCount", type := .int, accessFlags := 132, slot := 0, constantValue := 0 }]
  methods := #[k14m0]
  instanceTypes := #[.int]
  staticTypes := #[]
  resolved := Array.replicate 218 none
  statics := none }

def pool15 : Array CpInfo := pool [(1, .class_ 2), (0, u "java/util/RandomAccess"), (0, .class_ 4), (0, u "java/lang/Object")] 2

/-- java/util/RandomAccess -/
def k15 : Class := { plain "java/util/RandomAccess" (some 0) with
  accessFlags := 1537
  interfaces := #[]
  cf := some (fileOf pool15 1 #[] #[] 1537 3 #[] #[])
  fields := #[]
  methods := #[]
  instanceTypes := #[]
  staticTypes := #[]
  resolved := Array.replicate 7 none
  statics := none }

def pool16 : Array CpInfo := pool [(1, .class_ 2), (0, u "java/lang/Cloneable"), (0, .class_ 4), (0, u "java/lang/Object")] 2

/-- java/lang/Cloneable -/
def k16 : Class := { plain "java/lang/Cloneable" (some 0) with
  accessFlags := 1537
  interfaces := #[]
  cf := some (fileOf pool16 1 #[] #[] 1537 3 #[] #[])
  fields := #[]
  methods := #[]
  instanceTypes := #[]
  staticTypes := #[]
  resolved := Array.replicate 7 none
  statics := none }

def pool17 : Array CpInfo := pool [(1, .methodref 2 3), (0, .class_ 4), (0, .nameAndType 5 6), (0, u "java/util/AbstractList"), (0, u "<init>"), (0, u "()V"), (2, .fieldref 10 11), (0, .class_ 12), (0, .nameAndType 13 14), (0, u "java/util/ArrayList"), (0, u "elementData"), (0, u "[Ljava/lang/Object;"), (2, u "EMPTY_ELEMENTDATA"), (21, .fieldref 10 40), (0, .nameAndType 41 14), (0, u "DEFAULTCAPACITY_EMPTY_ELEMENTDATA"), (8, u "size"), (0, u "I"), (96, .class_ 149), (0, u "java/util/List"), (112, .class_ 263), (0, u "java/util/ArrayList$ListItr"), (3, .class_ 268), (0, u "java/util/ArrayList$Itr"), (7, .class_ 277), (0, u "java/util/ArrayList$SubList"), (12, .class_ 291), (0, u "java/util/ArrayList$ArrayListSpliterator"), (37, .class_ 330), (0, u "java/util/RandomAccess"), (0, .class_ 332), (0, u "java/lang/Cloneable"), (0, .class_ 334), (0, u "java/io/Serializable"), (0, u "serialVersionUID"), (0, u "J"), (3, u "DEFAULT_CAPACITY"), (159, .class_ 501), (0, u "java/util/ArrayList$SubList$2"), (0, .class_ 503), (0, u "java/util/ArrayList$SubList$1")] 5

def k17c0 : Code := { maxStack := 2, maxLocals := 1, code := jdk_38_method_2_code, exceptionTable := #[], attributes := #[] }
def k17m0 : Method := { name := "<init>", desc := "()V", sig := { parameters := [], returnType := none }, accessFlags := 1, code := some k17c0 }
/-- java/util/ArrayList -/
def k17 : Class := { plain "java/util/ArrayList" (some 14) with
  accessFlags := 33
  interfaces := #[13, 15, 16, 3]
  cf := some (fileOf pool17 10 #[.nestMembers #[290, 276, 500, 502, 262, 267]] #[{ accessFlags := 1, nameIndex := 5, descriptorIndex := 6, attributes := #[] }] 33 2 #[148, 329, 331, 333] #[{ accessFlags := 26, nameIndex := 335, descriptorIndex := 336, attributes := #[] }, { accessFlags := 26, nameIndex := 340, descriptorIndex := 51, attributes := #[] }, { accessFlags := 26, nameIndex := 17, descriptorIndex := 14, attributes := #[] }, { accessFlags := 26, nameIndex := 41, descriptorIndex := 14, attributes := #[] }, { accessFlags := 128, nameIndex := 13, descriptorIndex := 14, attributes := #[] }, { accessFlags := 2, nameIndex := 50, descriptorIndex := 51, attributes := #[] }])
  fields := #[{ name := "serialVersionUID", type := .long, accessFlags := 26, slot := 0, constantValue := 0 }, { name := "DEFAULT_CAPACITY", type := .int, accessFlags := 26, slot := 1, constantValue := 0 }, { name := "EMPTY_ELEMENTDATA", type := (.array (.object "java/lang/Object")), accessFlags := 26, slot := 2, constantValue := 0 }, { name := "DEFAULTCAPACITY_EMPTY_ELEMENTDATA", type := (.array (.object "java/lang/Object")), accessFlags := 26, slot := 3, constantValue := 0 }, { name := "elementData", type := (.array (.object "java/lang/Object")), accessFlags := 128, slot := 1, constantValue := 0 }, { name := "size", type := .int, accessFlags := 2, slot := 2, constantValue := 0 }]
  methods := #[k17m0]
  instanceTypes := #[.int, (.array (.object "java/lang/Object")), .int]
  staticTypes := #[.long, .int, (.array (.object "java/lang/Object")), (.array (.object "java/lang/Object"))]
  resolved := Array.replicate 509 none
  statics := some 0 }

/-- the primitive byte -/
def k18 : Class := { plain "byte" none with kind := .primitive 'B', accessFlags := 0x411 }
/-- [B -/
def k19 : Class := { plain "[B" (some 0) with kind := .array 18 .byte, interfaces := #[16, 3], accessFlags := 1041 }

/-- the primitive int -/
def k20 : Class := { plain "int" none with kind := .primitive 'I', accessFlags := 0x411 }
/-- [I -/
def k21 : Class := { plain "[I" (some 0) with kind := .array 20 .int, interfaces := #[16, 3], accessFlags := 1041 }

/-- [Ljava/lang/Object; -/
def k22 : Class := { plain "[Ljava/lang/Object;" (some 0) with kind := .array 0 (.object "java/lang/Object"), interfaces := #[16, 3], accessFlags := 1041 }

def heap : Heap := #[{ cls := 17, slots := #[.long 0, .int 0, .ref 1, .ref 2], vm := .statics 17 },
  { cls := 22, slots := #[], vm := .none },
  { cls := 22, slots := #[], vm := .none }]
def classes : Array Class := #[k0, k1, k2, k3, k4, k5, k6, k7, k8, k9, k10, k11, k12, k13, k14, k15, k16, k17, k18, k19, k20, k21, k22]
def interned : List (Array UInt16 × Addr) := []
def slotsUsed : Nat := 4
def theMethod : MethodId := ⟨1, 1⟩
def args0 : Array Value := #[.int 3, .int 5, .int 7, .long 9]
def aboutOver (below : List Frame) : State where
  vm := { classes := classes, interned := interned.toArray }
  heap := heap
  slotsUsed := slotsUsed
  threads := #[{ frames := .invoking theMethod args0 :: below }]
def below0 : List Frame := [.native { method := ⟨0, 0⟩, args := #[] }]
def about1 : State := aboutOver below0
def p0 : Program := .bare "" "" ""
def e0 : Env := launch0.env 0 0 0
theorem w_frames : about1.frames = Frame.invoking theMethod args0 :: below0 := rfl
set_option maxRecDepth 65536 in
theorem w_args : argsFit about1.vm theMethod args0 = true := by decide +kernel
set_option maxRecDepth 65536 in
theorem w_heap : heapFits about1 = true := by decide +kernel
set_option maxRecDepth 65536 in
theorem w_runnable : about1.curStatus? = some .runnable := by decide +kernel
set_option maxRecDepth 65536 in
theorem w_alone : about1.alone = true := by decide +kernel
set_option maxRecDepth 65536 in
theorem w_named : about1.methodNamed? x = some theMethod := by decide +kernel
set_option maxRecDepth 65536 in
theorem w_hears : about1.hears theMethod below0 = true := by decide +kernel
set_option maxRecDepth 65536 in
theorem w_ripe : about1.ripe theMethod args0 below0 = true := by decide +kernel
theorem w_running : about1.status = .running := rfl
set_option maxRecDepth 65536 in
theorem w_room : about1.hasRoom e0.platform room_1 = true :=
  launch0.hasRoom_least _ room_1 (by decide +kernel) (by decide +kernel) (by decide +kernel) (by decide +kernel) (by decide +kernel) (by decide +kernel)
theorem allAtoms_all (ts : List Jvm.Cond) (a : Array Jvm.Value) (st : Jvm.State) : (allAtoms ts).before a st = ts.all (fun c => c.before a st) := by
  induction ts with
  | nil => rfl
  | cons c t ih =>
    show (Jvm.Cond.and c (allAtoms t)).before a st = _
    rw [Jvm.Cond.before_and, ih, List.all_cons]
def words1 : List Jvm.Cond := Jvm.Cond.code x code maxLocals ret :: tables_1
/-- a 'code' word, met by the world's own term for the bytes: nothing is compared byte by byte -/
theorem code_word {y : MethodName} {bytes : ByteArray} {mx : Nat} {rt : Option FieldType} {a : Array Value} {s : State} {m : MethodId} {meth : Method} {c : Code} (h1 : s.methodNamed? y = some m) (h2 : s.vm.method? m = some meth) (h3 : meth.code = some c) (h4 : c.code = bytes)
    (h5 : (c.maxLocals == mx && c.exceptionTable.isEmpty && decide (c.maxStack ≤ mostOperands) && decide (meth.sig.returnType = rt) && !meth.locks && decide (parseMethodDescriptor y.desc = some meth.sig)) = true) : (Jvm.Cond.code y bytes mx rt).before a s = true := by
  simp only [Bool.and_eq_true, beq_iff_eq, Bool.not_eq_true', decide_eq_true_eq] at h5
  obtain ⟨⟨⟨⟨⟨g1, g2⟩, g3⟩, g4⟩, g5⟩, g6⟩ := h5
  simp [Cond.before, Cond.holds, Cond.value, h1, h2, h3, h4, g1, g2, g3, g4, g5, g6]
def isCode : Jvm.Cond → Bool
  | .code _ _ _ _ => true
  | _ => false
theorem all_split {L : List Jvm.Cond} {P : Jvm.Cond → Bool} (h1 : L.all (fun c => isCode c || P c) = true) (h2 : ∀ c ∈ L.filter isCode, P c = true) : L.all P = true := by
  refine List.all_eq_true.mpr fun c hc => ?_
  have h := List.all_eq_true.mp h1 c hc
  rcases Bool.eq_false_or_eq_true (isCode c) with hi | hi
  · exact h2 c (List.mem_filter.mpr ⟨hc, hi⟩)
  · simpa [hi] using h
set_option maxRecDepth 65536 in
theorem w_c0 : (Jvm.Cond.code x code maxLocals ret).before args0 about1 = true := code_word (m := ⟨1, 1⟩) (meth := k1m1) (c := k1c1) (by decide +kernel) rfl rfl rfl (by decide +kernel)
set_option maxRecDepth 65536 in
theorem w_c1 : (Jvm.Cond.code ({ cls := "java/util/ArrayList", name := "<init>", desc := "()V" } : Jvm.MethodName) jdk_38_method_2_code (1 : Nat) (Option.none : Option Jvm.ClassFile.FieldType)).before args0 about1 = true := code_word (m := ⟨17, 0⟩) (meth := k17m0) (c := k17c0) (by decide +kernel) rfl rfl rfl (by decide +kernel)
set_option maxRecDepth 65536 in
theorem w_c2 : (Jvm.Cond.code ({ cls := "java/util/AbstractList", name := "<init>", desc := "()V" } : Jvm.MethodName) jdk_39_method_1_code (1 : Nat) (Option.none : Option Jvm.ClassFile.FieldType)).before args0 about1 = true := code_word (m := ⟨14, 0⟩) (meth := k14m0) (c := k14c0) (by decide +kernel) rfl rfl rfl (by decide +kernel)
set_option maxRecDepth 65536 in
theorem w_c3 : (Jvm.Cond.code ({ cls := "java/util/AbstractCollection", name := "<init>", desc := "()V" } : Jvm.MethodName) jdk_22_method_1_code (1 : Nat) (Option.none : Option Jvm.ClassFile.FieldType)).before args0 about1 = true := code_word (m := ⟨11, 0⟩) (meth := k11m0) (c := k11c0) (by decide +kernel) rfl rfl rfl (by decide +kernel)
set_option maxRecDepth 65536 in
theorem w_c4 : (Jvm.Cond.code ({ cls := "java/lang/Object", name := "<init>", desc := "()V" } : Jvm.MethodName) object_method_1_code (1 : Nat) (Option.none : Option Jvm.ClassFile.FieldType)).before args0 about1 = true := code_word (m := ⟨0, 0⟩) (meth := k0m0) (c := k0c0) (by decide +kernel) rfl rfl rfl (by decide +kernel)
set_option maxRecDepth 65536 in
theorem w_c5 : (Jvm.Cond.code ({ cls := "com/example/underwright/underwright/csv/CsvRecord", name := "<init>", desc := "(JLjava/lang/String;[ILjava/util/List;)V" } : Jvm.MethodName) prog_2_method_1_code (6 : Nat) (Option.none : Option Jvm.ClassFile.FieldType)).before args0 about1 = true := code_word (m := ⟨2, 0⟩) (meth := k2m0) (c := k2c0) (by decide +kernel) rfl rfl rfl (by decide +kernel)
set_option maxRecDepth 65536 in
theorem w_c6 : (Jvm.Cond.code ({ cls := "com/example/underwright/underwright/csv/CsvRecord", name := "start", desc := "(I)I" } : Jvm.MethodName) prog_2_method_8_code (2 : Nat) (Option.some Jvm.ClassFile.FieldType.int)).before args0 about1 = true := code_word (m := ⟨2, 1⟩) (meth := k2m1) (c := k2c1) (by decide +kernel) rfl rfl rfl (by decide +kernel)
set_option maxRecDepth 65536 in
theorem w_c7 : (Jvm.Cond.code ({ cls := "com/example/underwright/underwright/csv/CsvRecord", name := "end", desc := "(I)I" } : Jvm.MethodName) prog_2_method_9_code (2 : Nat) (Option.some Jvm.ClassFile.FieldType.int)).before args0 about1 = true := code_word (m := ⟨2, 2⟩) (meth := k2m2) (c := k2c2) (by decide +kernel) rfl rfl rfl (by decide +kernel)
def codes1 : List Jvm.Cond := [Jvm.Cond.code x code maxLocals ret, Jvm.Cond.code ({ cls := "java/util/ArrayList", name := "<init>", desc := "()V" } : Jvm.MethodName) jdk_38_method_2_code (1 : Nat) (Option.none : Option Jvm.ClassFile.FieldType), Jvm.Cond.code ({ cls := "java/util/AbstractList", name := "<init>", desc := "()V" } : Jvm.MethodName) jdk_39_method_1_code (1 : Nat) (Option.none : Option Jvm.ClassFile.FieldType), Jvm.Cond.code ({ cls := "java/util/AbstractCollection", name := "<init>", desc := "()V" } : Jvm.MethodName) jdk_22_method_1_code (1 : Nat) (Option.none : Option Jvm.ClassFile.FieldType), Jvm.Cond.code ({ cls := "java/lang/Object", name := "<init>", desc := "()V" } : Jvm.MethodName) object_method_1_code (1 : Nat) (Option.none : Option Jvm.ClassFile.FieldType), Jvm.Cond.code ({ cls := "com/example/underwright/underwright/csv/CsvRecord", name := "<init>", desc := "(JLjava/lang/String;[ILjava/util/List;)V" } : Jvm.MethodName) prog_2_method_1_code (6 : Nat) (Option.none : Option Jvm.ClassFile.FieldType), Jvm.Cond.code ({ cls := "com/example/underwright/underwright/csv/CsvRecord", name := "start", desc := "(I)I" } : Jvm.MethodName) prog_2_method_8_code (2 : Nat) (Option.some Jvm.ClassFile.FieldType.int), Jvm.Cond.code ({ cls := "com/example/underwright/underwright/csv/CsvRecord", name := "end", desc := "(I)I" } : Jvm.MethodName) prog_2_method_9_code (2 : Nat) (Option.some Jvm.ClassFile.FieldType.int)]
set_option maxRecDepth 65536 in
theorem codes_eq : words1.filter isCode = codes1 := rfl
theorem w_codes : ∀ c ∈ words1.filter isCode, c.before args0 about1 = true := by
  rw [codes_eq]
  intro c hc
  simp only [codes1, List.mem_cons, List.not_mem_nil, or_false] at hc
  rcases hc with rfl | rfl | rfl | rfl | rfl | rfl | rfl | rfl
  · exact w_c0
  · exact w_c1
  · exact w_c2
  · exact w_c3
  · exact w_c4
  · exact w_c5
  · exact w_c6
  · exact w_c7
set_option maxRecDepth 65536 in
theorem w_t1 : (words1.take 24).all (fun c => isCode c || c.before args0 about1) = true := by decide +kernel
set_option maxRecDepth 65536 in
theorem w_t2 : ((words1.drop 24).take 24).all (fun c => isCode c || c.before args0 about1) = true := by decide +kernel
set_option maxRecDepth 65536 in
theorem w_t3 : ((words1.drop 24).drop 24).all (fun c => isCode c || c.before args0 about1) = true := by decide +kernel
theorem w_tables : (allAtoms (Jvm.Cond.code x code maxLocals ret :: tables_1)).before args0 about1 = true := by
  rw [allAtoms_all]
  show words1.all (fun c => c.before args0 about1) = true
  refine all_split ?_ w_codes
  rw [← List.take_append_drop 24 words1, List.all_append, w_t1, ← List.take_append_drop 24 (words1.drop 24), List.all_append, w_t2, w_t3]
  rfl
set_option maxRecDepth 65536 in
theorem w_rest : rest_1_c.before args0 about1 = true := by decide +kernel
set_option maxRecDepth 65536 in
theorem w_case : (Jvm.Cond.and given_1 narrow_1).before args0 about1 = true := by decide +kernel
theorem w_applies : (headSpec (Jvm.Cond.code x code maxLocals ret :: tables_1) room_1).applies x e0.platform about1 = true :=
  (Spec.applies_iff w_frames).mpr ⟨w_running, w_runnable, w_alone, w_named, w_hears, w_ripe, w_room, w_tables⟩
theorem atStart : AtStart classFile x code maxLocals ret World_1 tables_1 room_1 Calls_1 rest_1 Pre_1 launch0 p0 e0 about1 theMethod args0 below0 :=
  ⟨lists_1, trivial, launch0.admits_env _ _ _, launch0.least_env, fairChoices_fair.cas, fairChoices_fair.clock, w_frames, w_args, w_heap, w_applies, trivial, w_rest, w_case⟩
end start1
theorem witness_1 : WitnessClaimed_1 := ⟨start1.p0, start1.e0, start1.about1, start1.theMethod, start1.args0, start1.below0, start1.atStart⟩
end Jvm.Pilot.@@N@@
