import JvmDerived
import JvmDerived.Pilot.@@N@@Statement
import JvmDerived.Pilot.@@N@@Code
set_option linter.unusedVariables false
set_option linter.unusedSimpArgs false
namespace Jvm.RoadKit
open Sem ClassFile Op Lib Jvm.Stand Jvm.Free Jvm.LawKit
section New
variable {p : Program} {l : Launch} {e : Env} {R : Room} {s : State} {m : MethodId} {args : Array Value} {below : List Frame} {meth : Method} {c : Code} {T : State} {locs : List Loc} {cells slots : Nat}
theorem retI (X : Stand p l e R s m args below meth c T locs cells slots) (hx : p.tables.exec = Jvm.exec) {pc : Nat} {Ls : Array Slot} {z : Int32} {rest : List Value} (hret : meth.sig.returnType = some .int) (hd : decode c.code pc = .ok (.ireturn, 1)) {fs : List Frame}
    (hl : ∀ (f : JFrame) (acts : List Action), f.method = m → f.locked = none → f.entered = [] → (doReturn e (T.setTop f) acts (some (.int z))).1 = T.setFrames fs) : Steps p.tables e below (T.setTop (mkF m pc Ls (.int z :: rest))) (T.setFrames fs) := by
  have hm' : T.vm.method? m = some meth := X.method'
  have hn : narrow .int (.int z) = .int z := rfl
  show Steps p.tables e below (T.setTop { method := m, pc := pc, locals := Ls, stack := _ :: rest, locked := none }) _
  jvm_step X.here [X.here.top, hx, hd, hm', hret, hn]
  first | (intro acts; rw [hl _ acts rfl rfl rfl]) | rw [hl _ _ rfl rfl rfl]
  exact Steps.refl _
end New
end Jvm.RoadKit
namespace Jvm.Pilot.@@N@@
open Jvm Jvm.ClassFile Sem Op Lib Jvm.Free Jvm.Stand Jvm.LawKit Jvm.RoadKit Bundle Jvm.Pilot.@@N@@.Jvm.D
theorem own_exa_st {Z : State} {h : Heap} {a : Addr} {C : String} (E : Exa Z h a C) : ∀ c : Cell, h[a]? = some c → c.vm.isStatics = false := fun c hc => by
  obtain ⟨c1, _, h1, -, -, h4, -⟩ := E; cases h1.symm.trans hc; exact h4
theorem own_arv_st {Z : State} {h : Heap} {a : Addr} {k : ClassId} {ty : FieldType} {n : Int32} {vs : List Value} {d : Value} (E : Arv Z h a k ty n vs d) : ∀ c : Cell, h[a]? = some c → c.vm.isStatics = false := fun c hc => by
  obtain ⟨c1, A, -⟩ := E; cases A.1.symm.trans hc; exact A.plain
theorem own_sta_keep {Z : State} {h h' : Heap} {C n d : String} {v : Value} {ws : List Addr} (F : Sta Z h C n d v) (K : Keep h h' ws) (q : ∀ x ∈ ws, ∀ c : Cell, h[x]? = some c → c.vm.isStatics = false) : Sta Z h' C n d v := by
  obtain ⟨cf, i, k, f, st, cell, h1, h2, h3, h4, h5, h6, h7⟩ := F
  exact ⟨cf, i, k, f, st, cell, h1, h2, h3, h4, K.2.1 st cell h5 (fun hm => by rw [q st hm cell h5] at h6; cases h6), h6, h7⟩
theorem own_backS {l : Launch} {R : Room} {p : Program} {e : Env} {below : List Frame} {s Z : State} {args a0 : Array Value} {h : Heap} {y : MethodName} {bytes : ByteArray} {maxL : Nat} {ret : Option FieldType} {rm : Room} {len W : Nat} {as' : Array Value} {Q : Option Value → Heap → List Loc → Prop}
    (hM : MetFree l y (head1 [Cond.code y bytes maxL ret] rm) (fun a U => a = as' ∧ Z.Warmed39 U.vm ∧ U.heap = h ∧ U.vm.interned = Z.vm.interned) (fun _ _ _ _ _ => True) (fun _ U o U' => ∃ v L, o = .returned v ∧ Q v U'.heap L ∧ ReturnedEndW U o U' L rm.cells rm.slots))
    (hZ : Z.Warmed39 s.vm) (hI : s.vm.interned = Z.vm.interned) (wc : (Cond.code y bytes maxL ret).before a0 Z = true) (wz : (Cond.initialized y.cls).before a0 Z = true) (hf : rm.frames + 1 ≤ R.frames) (hl : W + (maxL + 11) + rm.locals ≤ R.locals) :
    BackS l R p e below s args y len W (fun A a => a = as' ∧ A.U.heap = h ∧ A.cells + rm.cells ≤ R.cells ∧ A.slots + rm.slots ≤ R.slots)
      (fun A _ v B => ∃ L, Q v B.U.heap L ∧ B.locs = A.locs ++ L ∧ B.cells = A.cells + rm.cells ∧ B.slots = A.slots + rm.slots) := by
  refine BackS.of_freeW (bytes := bytes) (maxL := maxL) (ret := ret) (E := fun _ _ o t L k n => k = rm.cells ∧ n = rm.slots ∧ ∃ v, o = .returned v ∧ Q v t.heap L) hM hf hl ?_ ?_ (fun _ _ _ _ _ _ _ _ _ => trivial) ?_ ?_
  · intro m meth c A a Y hp
    have hU : Z.Warmed39 A.U.vm := wtrans hZ Y.warmed
    refine ⟨?_, mv hU wc, mv hU wz, hp.2.2.1, hp.2.2.2⟩
    show (Cond.and _ .tt).before a A.U = true
    rw [Cond.before_and, mv hU wc]; rfl
  · intro m meth c A a g mk Y hp
    exact ⟨hp.1, wtrans hZ Y.warmed, hp.2.1, Y.warmed.interned_eq.trans hI⟩
  · rintro a U o U' ⟨v, L, h1, h2, h3⟩
    exact ⟨L, _, _, h3, rfl, rfl, v, h1, h2⟩
  · rintro m meth c A a g mk v t L k n Y hp - - ⟨e1, e2, v', e3, e4⟩
    cases e3; subst e1 e2; exact ⟨L, e4, rfl, rfl, rfl⟩
def own_nb (c : Int32) : Int32 := nar .byte (c.toInt8.toInt32)
theorem own_ix (p : Int32) (h1 : ¬ p < (-128 : Int32)) (h2 : ¬ (127 : Int32) < p) : ¬ ((p + (128 : Int32)) < 0) ∧ (p + (128 : Int32)).toNatClampNeg < 256 := by
  rw [Int32.lt_iff_toInt_lt] at h1 h2
  have e1 : (-128 : Int32).toInt = -128 := by decide
  have e2 : (127 : Int32).toInt = 127 := by decide
  have e3 : (128 : Int32).toInt = 128 := by decide
  have e4 : (p + (128 : Int32)).toInt = p.toInt + 128 := by
    rw [Int32.toInt_add, e3, Int.bmod_def]
    have : (p.toInt + 128) % ((2 ^ 32 : Nat) : Int) = p.toInt + 128 := Int.emod_eq_of_lt (by omega) (by omega)
    rw [this, if_pos (by omega)]
  refine ⟨?_, ?_⟩
  · rw [Int32.lt_iff_toInt_lt, e4, Int32.toInt_zero]; omega
  · simp only [Int32.toNatClampNeg, e4]; omega
theorem own_ixL (q : Int64) (h1 : ¬ q < (-128 : Int64)) (h2 : ¬ (127 : Int64) < q) : ¬ ((q.toInt32 + (128 : Int32)) < 0) ∧ (q.toInt32 + (128 : Int32)).toNatClampNeg < 256 := by
  rw [Int64.lt_iff_toInt_lt] at h1 h2
  have e1 : (-128 : Int64).toInt = -128 := by decide
  have e2 : (127 : Int64).toInt = 127 := by decide
  have e5 : q.toInt32.toInt = q.toInt := by
    rw [Int64.toInt_toInt32, Int.bmod_def]
    split <;> omega
  apply own_ix
  · rw [Int32.lt_iff_toInt_lt, e5, show (-128 : Int32).toInt = -128 from by decide]; omega
  · rw [Int32.lt_iff_toInt_lt, e5, show (127 : Int32).toInt = 127 from by decide]; omega
theorem own_el {Z : State} {args : Array Value} {C n d K : String} {X : Jvm.Cond} {ca : Addr} {cl : Cell} {ty : FieldType} (ev : (Term.static C n d).eval args Z none [] Z = some (.ref ca)) (A : Arr Z Z.heap ca cl ty) (hsz : cl.slots.size = 256) (w : (Jvm.Cond.all (.static C n d) (.and (.exactly (.elem (.static C n d) (.index 0)) K) X)).before args Z = true) : ∀ i, i < 256 → ∃ r : Addr, cl.slots[i]? = some (.ref r) := by
  intro i hi
  have hat : Z.arrayAt? ca = some cl := A.fin (Vm.Alike.refl _)
  have h := Cond.all_elim ev hat (Cond.before_iff.mp w) i (by omega)
  obtain ⟨h1, -⟩ := and_e h
  have ev' : (Term.static C n d).eval args Z none [i] Z = some (.ref ca) := ev
  have hne : (Int32.ofNat i).toInt = i := Int32.toInt_ofNat_of_lt (by omega)
  have hj : ¬ (Int32.ofNat i < 0) := by rw [Int32.lt_iff_toInt_lt, hne, Int32.toInt_zero]; omega
  have hix : (Term.index 0).eval args Z none [i] Z = some (.int (Int32.ofNat i)) := rfl
  have hcl : (Int32.ofNat i).toNatClampNeg = i := by simp only [Int32.toNatClampNeg, hne]; omega
  have he : (Term.elem (.static C n d) (.index 0)).eval args Z none [i] Z = cl.slots[i]? := by
    have q : (Term.elem (.static C n d) (.index 0)).eval args Z none [i] Z = (if Int32.ofNat i < 0 then none else cl.slots[(Int32.ofNat i).toNatClampNeg]?) := by
      simp only [Term.eval] at ev' hix ⊢
      rw [ev', hix]
      simp [hat]
    rw [q, if_neg hj, hcl]
  simp only [Cond.value, he] at h1
  cases hs : cl.slots[i]? with
  | none => simp [hs] at h1
  | some v =>
    cases v with
    | ref r => exact ⟨r, rfl⟩
    | null => cases hk : Z.vm.findClass K <;> simp [hs, hk] at h1
    | _ => simp [hs] at h1
theorem own_sint {Z : State} {args : Array Value} {C n : String} {k : Int32} (hf : Fit Z) (w : (Jvm.Cond.laysStatic C n "I").before args Z = true) (w2 : (Jvm.Cond.eq (.static C n "I") (.int k)).before args Z = true) : (Term.static C n "I").eval args Z none [] Z = some (.int k) := by
  obtain ⟨v, e, hv⟩ := static_fit hf w (ty := .int) (by decide)
  obtain ⟨x, rfl⟩ := fit_I hv (by simp)
  have q := Cond.before_iff.mp w2
  have q2 : (Jvm.Cond.eq (.static C n "I") (.int k)).value args Z none Z [] = some (decide (x = k)) := by simp only [Cond.value, e, Term.int_eval]
  rw [q2] at q
  rw [e, of_decide_eq_true (Option.some.inj q)]
theorem own_size {Z : State} {args : Array Value} {t : Term} {ca : Addr} {cl : Cell} {ty : FieldType} (ev : t.eval args Z none [] Z = some (.ref ca)) (A : Arr Z Z.heap ca cl ty) (w : (Jvm.Cond.eq (.length t) (.int (256 : Int32))).before args Z = true) : cl.slots.size = 256 := by
  obtain ⟨hsz, hsize⟩ := Jvm.Free.IntBox.length_fwd w ev A.1 A.2.1 A.2.2
  have h := congrArg Int32.toInt hsize
  rw [len_toInt (by omega), show (256 : Int32).toInt = 256 from by decide] at h
  omega
theorem d16_0 : decode jdk_18_method_1_code 0 = .ok (.aload_n 0, 1) := by decide +kernel
theorem d16_1 : decode jdk_18_method_1_code 1 = .ok (.invokespecial 1, 3) := by decide +kernel
theorem d16_4 : decode jdk_18_method_1_code 4 = .ok (.return_, 1) := by decide +kernel
theorem pn_0 : plainName "java/lang/Number" = true := by first | (simp [plainName, overriddenIn]; done) | decide +kernel
theorem ef_rm16 (m : MethodId) (x0 : Addr) : entryFrame m #[(.ref x0)] 1 = mkF m 0 #[.val (.ref x0)] [] := by first | (simp [entryFrame, mkF, argsToLocals, Value.category]; done) | rfl
def Q_rm16 (Z : State) (a1 : Addr)  (h0 : Heap) (n0 : Nat) (v : Option Value) (h : Heap) (L : List Loc) : Prop := v = none ∧ Fr n0 L ∧ h = h0
set_option maxRecDepth 65536 in
set_option maxHeartbeats 40000000 in
theorem rm16 (l : Launch) (Z : State) (a0 : Array Value) (hw : ∀ d ∈ tables_1, d.before a0 Z = true) (ws : List Jvm.Cond) (a1 : Addr)  (h0 : Heap) (n0 : Nat) (Z0 : n0 ≤ h0.size)  :
    MetFree l (⟨"java/lang/Number", "<init>", "()V"⟩ : MethodName) (head1 (Jvm.Cond.code (⟨"java/lang/Number", "<init>", "()V"⟩ : MethodName) jdk_18_method_1_code 1 none :: ws) ({ frames := 1, cells := 0, slots := 0, locals := 12 } : Room)) (fun a U => a = #[(.ref a1)] ∧ Z.Warmed39 U.vm ∧ U.heap = h0) (fun _ _ _ _ _ => True) (fun _ U o U' => ∃ v L, o = .returned v ∧ Q_rm16 Z a1  h0 n0 v U'.heap L ∧ FrameEnd U o U' L ({ frames := 1, cells := 0, slots := 0, locals := 12 } : Room).cells ({ frames := 1, cells := 0, slots := 0, locals := 12 } : Room).slots) := by
  refine MetFree.of_bodySF (plainFor_of_name pn_0) hisR ?_
  intro p e s m args below meth c s₁ Bd hml0 hP hK
  obtain ⟨rfl, hZ, hh⟩ := hP
  have hx := Bd.exec
  have hby := Bd.bytes
  have hml : c.maxLocals = 1 := hml0
  have hown : s.vm.findClass "java/lang/Number" = some m.cls := findClass_of_methodNamed Bd.named
  have hnm := (name_of_methodNamed Bd.named Bd.method).1
  have X0 : Stand p l e ({ frames := 1, cells := 0, slots := 0, locals := 12 } : Room) s m #[(.ref a1)] below meth c s₁ [] 0 0 := Stand.of_body Bd
  have e0 : s₁.heap = h0 := by rw [← hh, Bd.state]; rfl
  have N0 := Fr.nil n0
  have pre0 : ∀ t, Steps p.tables e below (s₁.setTop (mkF m 0 #[.val (.ref a1)] [])) t → Steps p.tables e below (s₁.setTop (entryFrame m #[(.ref a1)] 1)) t := fun t k => castTop (ef_rm16 m a1) k
  have R0 : ∀ t, Steps p.tables e below (s₁.setTop (mkF m 0 #[.val (.ref a1)] [])) t → Steps p.tables e below (s₁.setTop (mkF m 0 #[.val (.ref a1)] [])) t := fun _ k => k
  have R1 : ∀ t, Steps p.tables e below (s₁.setTop (mkF m 1 #[.val (.ref a1)] [(.ref a1)])) t → Steps p.tables e below (s₁.setTop (mkF m 0 #[.val (.ref a1)] [])) t := by
    intro t k
    refine R0 t ?_
    refine XS.aloadN X0.here hx rfl (hb hby d16_0) rfl rfl ?_
    exact k
  obtain ⟨T2, X2, e2, st2⟩ := initO X0 hx hZ hown (hw _ (List.mem_of_getElem? (i := 94) rfl)) (hw _ (List.mem_of_getElem? (i := 12) rfl)) (hw _ (List.mem_of_getElem? (i := 13) rfl)) e0 (g := (mkF m 1 #[.val (.ref a1)] [(.ref a1)])) rfl (by rw [hml]; rfl) rfl (hb hby d16_1) (by decide) (W := 0) (by show 2 * 0 + _ ≤ _; exact Nat.le_of_eq rfl) (by decide)
  have R3 : ∀ t, Steps p.tables e below (T2.setTop (mkF m 4 #[.val (.ref a1)] [])) t → Steps p.tables e below (s₁.setTop (mkF m 0 #[.val (.ref a1)] [])) t := fun t k => R1 t (st2 _ k)
  obtain ⟨fs, hr, hrun, hended, hW, hsame⟩ := X2.leave (v := none) (fun _ => rfl)
  refine ⟨_, _, pre0 _ (R3 _ (X2.returnOut hx Bd.returns (hb hby d16_4) hr)), hrun, hended, _, _, rfl, ?_, ⟨_, rfl⟩, hW, hsame.mono (by decide) (by decide)⟩
  show Q_rm16 Z a1  h0 n0 _ T2.heap _
  rw [e2]
  exact ⟨rfl, N0, rfl⟩
theorem d6_0 : decode jdk_30_method_1_code 0 = .ok (.aload_n 0, 1) := by decide +kernel
theorem d6_1 : decode jdk_30_method_1_code 1 = .ok (.invokespecial 1, 3) := by decide +kernel
theorem d6_4 : decode jdk_30_method_1_code 4 = .ok (.return_, 1) := by decide +kernel
theorem pn_1 : plainName "java/lang/Record" = true := by first | (simp [plainName, overriddenIn]; done) | decide +kernel
theorem ef_rm6 (m : MethodId) (x0 : Addr) : entryFrame m #[(.ref x0)] 1 = mkF m 0 #[.val (.ref x0)] [] := by first | (simp [entryFrame, mkF, argsToLocals, Value.category]; done) | rfl
def Q_rm6 (Z : State) (a1 : Addr)  (h0 : Heap) (n0 : Nat) (v : Option Value) (h : Heap) (L : List Loc) : Prop := v = none ∧ Fr n0 L ∧ h = h0
set_option maxRecDepth 65536 in
set_option maxHeartbeats 40000000 in
theorem rm6 (l : Launch) (Z : State) (a0 : Array Value) (hw : ∀ d ∈ tables_1, d.before a0 Z = true) (ws : List Jvm.Cond) (a1 : Addr)  (h0 : Heap) (n0 : Nat) (Z0 : n0 ≤ h0.size)  :
    MetFree l (⟨"java/lang/Record", "<init>", "()V"⟩ : MethodName) (head1 (Jvm.Cond.code (⟨"java/lang/Record", "<init>", "()V"⟩ : MethodName) jdk_30_method_1_code 1 none :: ws) ({ frames := 1, cells := 0, slots := 0, locals := 12 } : Room)) (fun a U => a = #[(.ref a1)] ∧ Z.Warmed39 U.vm ∧ U.heap = h0) (fun _ _ _ _ _ => True) (fun _ U o U' => ∃ v L, o = .returned v ∧ Q_rm6 Z a1  h0 n0 v U'.heap L ∧ FrameEnd U o U' L ({ frames := 1, cells := 0, slots := 0, locals := 12 } : Room).cells ({ frames := 1, cells := 0, slots := 0, locals := 12 } : Room).slots) := by
  refine MetFree.of_bodySF (plainFor_of_name pn_1) hisR ?_
  intro p e s m args below meth c s₁ Bd hml0 hP hK
  obtain ⟨rfl, hZ, hh⟩ := hP
  have hx := Bd.exec
  have hby := Bd.bytes
  have hml : c.maxLocals = 1 := hml0
  have hown : s.vm.findClass "java/lang/Record" = some m.cls := findClass_of_methodNamed Bd.named
  have hnm := (name_of_methodNamed Bd.named Bd.method).1
  have X0 : Stand p l e ({ frames := 1, cells := 0, slots := 0, locals := 12 } : Room) s m #[(.ref a1)] below meth c s₁ [] 0 0 := Stand.of_body Bd
  have e0 : s₁.heap = h0 := by rw [← hh, Bd.state]; rfl
  have N0 := Fr.nil n0
  have pre0 : ∀ t, Steps p.tables e below (s₁.setTop (mkF m 0 #[.val (.ref a1)] [])) t → Steps p.tables e below (s₁.setTop (entryFrame m #[(.ref a1)] 1)) t := fun t k => castTop (ef_rm6 m a1) k
  have R0 : ∀ t, Steps p.tables e below (s₁.setTop (mkF m 0 #[.val (.ref a1)] [])) t → Steps p.tables e below (s₁.setTop (mkF m 0 #[.val (.ref a1)] [])) t := fun _ k => k
  have R4 : ∀ t, Steps p.tables e below (s₁.setTop (mkF m 1 #[.val (.ref a1)] [(.ref a1)])) t → Steps p.tables e below (s₁.setTop (mkF m 0 #[.val (.ref a1)] [])) t := by
    intro t k
    refine R0 t ?_
    refine XS.aloadN X0.here hx rfl (hb hby d6_0) rfl rfl ?_
    exact k
  obtain ⟨T5, X5, e5, st5⟩ := initO X0 hx hZ hown (hw _ (List.mem_of_getElem? (i := 36) rfl)) (hw _ (List.mem_of_getElem? (i := 12) rfl)) (hw _ (List.mem_of_getElem? (i := 13) rfl)) e0 (g := (mkF m 1 #[.val (.ref a1)] [(.ref a1)])) rfl (by rw [hml]; rfl) rfl (hb hby d6_1) (by decide) (W := 0) (by show 2 * 0 + _ ≤ _; exact Nat.le_of_eq rfl) (by decide)
  have R6 : ∀ t, Steps p.tables e below (T5.setTop (mkF m 4 #[.val (.ref a1)] [])) t → Steps p.tables e below (s₁.setTop (mkF m 0 #[.val (.ref a1)] [])) t := fun t k => R4 t (st5 _ k)
  obtain ⟨fs, hr, hrun, hended, hW, hsame⟩ := X5.leave (v := none) (fun _ => rfl)
  refine ⟨_, _, pre0 _ (R6 _ (X5.returnOut hx Bd.returns (hb hby d6_4) hr)), hrun, hended, _, _, rfl, ?_, ⟨_, rfl⟩, hW, hsame.mono (by decide) (by decide)⟩
  show Q_rm6 Z a1  h0 n0 _ T5.heap _
  rw [e5]
  exact ⟨rfl, N0, rfl⟩
theorem d17_0 : decode jdk_33_method_23_code 0 = .ok (.aload_n 0, 1) := by decide +kernel
theorem d17_1 : decode jdk_33_method_23_code 1 = .ok (.invokespecial 202, 3) := by decide +kernel
theorem d17_4 : decode jdk_33_method_23_code 4 = .ok (.aload_n 0, 1) := by decide +kernel
theorem d17_5 : decode jdk_33_method_23_code 5 = .ok (.iload_n 1, 1) := by decide +kernel
theorem d17_6 : decode jdk_33_method_23_code 6 = .ok (.putfield 205, 3) := by decide +kernel
theorem d17_9 : decode jdk_33_method_23_code 9 = .ok (.return_, 1) := by decide +kernel
theorem pf_rm17 : plainFor (⟨"java/lang/Integer", "<init>", "(I)V"⟩ : MethodName) = true := by decide +kernel
theorem pd_0 : parseMethodDescriptor "()V" = some ⟨[], none⟩ := by decide +kernel
theorem ef_rm17 (m : MethodId) (x0 : Addr) (x1 : Int32) : entryFrame m #[(.ref x0), (.int x1)] 2 = mkF m 0 #[.val (.ref x0), .val (.int x1)] [] := by first | (simp [entryFrame, mkF, argsToLocals, Value.category]; done) | rfl
def Q_rm17 (Z : State) (a1 : Addr) (p1 : Int32) (u1 : Value) (h0 : Heap) (n0 : Nat) (v : Option Value) (h : Heap) (L : List Loc) : Prop := v = none ∧ Fr n0 L ∧ Keep h0 h [a1]
set_option maxRecDepth 65536 in
set_option maxHeartbeats 40000000 in
theorem rm17 (l : Launch) (Z : State) (a0 : Array Value) (hw : ∀ d ∈ tables_1, d.before a0 Z = true) (ws : List Jvm.Cond) (a1 : Addr) (p1 : Int32) (u1 : Value) (h0 : Heap) (n0 : Nat) (Z0 : n0 ≤ h0.size) (E_0 : Exa Z h0 a1 "java/lang/Integer") (F_00 : Fld Z h0 a1 "java/lang/Integer" "value" "I" u1) (n_a1 : n0 ≤ a1) :
    MetFree l (⟨"java/lang/Integer", "<init>", "(I)V"⟩ : MethodName) (head1 (Jvm.Cond.code (⟨"java/lang/Integer", "<init>", "(I)V"⟩ : MethodName) jdk_33_method_23_code 2 none :: ws) ({ frames := 2, cells := 0, slots := 0, locals := 24 } : Room)) (fun a U => a = #[(.ref a1), (.int p1)] ∧ Z.Warmed39 U.vm ∧ U.heap = h0) (fun _ _ _ _ _ => True) (fun _ U o U' => ∃ v L, o = .returned v ∧ Q_rm17 Z a1 p1 u1 h0 n0 v U'.heap L ∧ FrameEnd U o U' L ({ frames := 2, cells := 0, slots := 0, locals := 24 } : Room).cells ({ frames := 2, cells := 0, slots := 0, locals := 24 } : Room).slots) := by
  refine MetFree.of_bodySF pf_rm17 hisR ?_
  intro p e s m args below meth c s₁ Bd hml0 hP hK
  obtain ⟨rfl, hZ, hh⟩ := hP
  have hx := Bd.exec
  have hby := Bd.bytes
  have hml : c.maxLocals = 2 := hml0
  have hown : s.vm.findClass "java/lang/Integer" = some m.cls := findClass_of_methodNamed Bd.named
  have hnm := (name_of_methodNamed Bd.named Bd.method).1
  have X0 : Stand p l e ({ frames := 2, cells := 0, slots := 0, locals := 24 } : Room) s m #[(.ref a1), (.int p1)] below meth c s₁ [] 0 0 := Stand.of_body Bd
  have e0 : s₁.heap = h0 := by rw [← hh, Bd.state]; rfl
  have N0 := Fr.nil n0
  have pre0 : ∀ t, Steps p.tables e below (s₁.setTop (mkF m 0 #[.val (.ref a1), .val (.int p1)] [])) t → Steps p.tables e below (s₁.setTop (entryFrame m #[(.ref a1), (.int p1)] 2)) t := fun t k => castTop (ef_rm17 m a1 p1) k
  have R0 : ∀ t, Steps p.tables e below (s₁.setTop (mkF m 0 #[.val (.ref a1), .val (.int p1)] [])) t → Steps p.tables e below (s₁.setTop (mkF m 0 #[.val (.ref a1), .val (.int p1)] [])) t := fun _ k => k
  have R7 : ∀ t, Steps p.tables e below (s₁.setTop (mkF m 1 #[.val (.ref a1), .val (.int p1)] [(.ref a1)])) t → Steps p.tables e below (s₁.setTop (mkF m 0 #[.val (.ref a1), .val (.int p1)] [])) t := by
    intro t k
    refine R0 t ?_
    refine XS.aloadN X0.here hx rfl (hb hby d17_0) rfl rfl ?_
    exact k
  obtain ⟨_, _, ⟨T8, L8, k8, n8⟩, -, X8, ⟨Lc8, hQ8, l8, y8, z8⟩, st8⟩ := X0.specialBack hx (y := (⟨"java/lang/Number", "<init>", "()V"⟩ : MethodName)) rfl hown (mvT hZ (hw _ (List.mem_of_getElem? (i := 103) rfl))) (mvT hZ (hw _ (List.mem_of_getElem? (i := 89) rfl))) (mvT hZ (hw _ (List.mem_of_getElem? (i := 93) rfl))) (by decide) (backOf (W := 0) (rm16 l Z a0 hw [] a1  h0 n0 Z0 ) hZ (hw _ (List.mem_of_getElem? (i := 93) rfl)) (hw _ (List.mem_of_getElem? (i := 92) rfl)) (by decide) (by decide)) (g := (mkF m 1 #[.val (.ref a1), .val (.int p1)] [(.ref a1)])) rfl (by rw [hml]; rfl) (Steps.refl _) (a := a1) (argsL := []) (rest := []) (lenOf pd_0 rfl) rfl (by show 2 * 0 + _ ≤ _; exact Nat.le_of_eq rfl) (hb hby d17_1) (fun _ _ => ⟨rfl, e0, (by decide : 0 + 0 ≤ _), (by decide : 0 + 0 ≤ _)⟩)
  dsimp only [Pt.U, Pt.locs, Pt.cells, Pt.slots] at X8 l8 y8 z8 st8 hQ8
  subst l8 y8 z8
  obtain ⟨rfl, M8, e8⟩ := hQ8
  have N8 := Fr.app N0 M8
  have R9 : ∀ t, Steps p.tables e below (T8.setTop (mkF m 4 #[.val (.ref a1), .val (.int p1)] [])) t → Steps p.tables e below (s₁.setTop (mkF m 0 #[.val (.ref a1), .val (.int p1)] [])) t := fun t k => R7 t (st8.trans k)
  have R10 : ∀ t, Steps p.tables e below (T8.setTop (mkF m 6 #[.val (.ref a1), .val (.int p1)] [(.int p1), (.ref a1)])) t → Steps p.tables e below (s₁.setTop (mkF m 0 #[.val (.ref a1), .val (.int p1)] [])) t := by
    intro t k
    refine R9 t ?_
    refine XS.aloadN X8.here hx rfl (hb hby d17_4) rfl rfl ?_
    refine XS.iloadN X8.here hx rfl (hb hby d17_5) rfl ?_
    exact k
  obtain ⟨T11, h11, X11, e11, W11, st11⟩ := putF X8 hx hZ hown (host := "") (Or.inl (hw _ (List.mem_of_getElem? (i := 105) rfl))) Via.refl e8 F_00 E_0 (Or.inr ⟨(hw _ (List.mem_of_getElem? (i := 106) rfl)), rfl, hnm⟩) (hw _ (List.mem_of_getElem? (i := 98) rfl)) (ty := .int) (by decide) rfl rfl (g := (mkF m 6 #[.val (.ref a1), .val (.int p1)] [(.int p1), (.ref a1)])) rfl rfl (hb hby d17_6)
  have N11 := Fr.snoc X11 N8 n_a1
  have Z11 : n0 ≤ h11.size := Nat.le_trans Z0 (Keep.of_wr W11).1
  have K11 : Keep h0 h11 [a1] := (Keep.refl h0 [a1]).wr W11 (Or.inl (List.mem_of_getElem? (i := 0) rfl))
  have E_12 : Exa Z h11 a1 "java/lang/Integer" := E_0.wr W11
  have F_13 : Fld Z h11 a1 "java/lang/Integer" "value" "I" (.int p1) := F_00.same W11
  have R14 : ∀ t, Steps p.tables e below (T11.setTop (mkF m 9 #[.val (.ref a1), .val (.int p1)] [])) t → Steps p.tables e below (s₁.setTop (mkF m 0 #[.val (.ref a1), .val (.int p1)] [])) t := fun t k => R10 t (st11 _ k)
  obtain ⟨fs, hr, hrun, hended, hW, hsame⟩ := X11.leave (v := none) (fun _ => rfl)
  refine ⟨_, _, pre0 _ (R14 _ (X11.returnOut hx Bd.returns (hb hby d17_9) hr)), hrun, hended, _, _, rfl, ?_, ⟨_, rfl⟩, hW, hsame.mono (by decide) (by decide)⟩
  show Q_rm17 Z a1 p1 u1 h0 n0 _ T11.heap _
  rw [e11]
  exact ⟨rfl, N11, K11⟩
theorem d15_0 : decode jdk_35_method_26_code 0 = .ok (.aload_n 0, 1) := by decide +kernel
theorem d15_1 : decode jdk_35_method_26_code 1 = .ok (.invokespecial 270, 3) := by decide +kernel
theorem d15_4 : decode jdk_35_method_26_code 4 = .ok (.aload_n 0, 1) := by decide +kernel
theorem d15_5 : decode jdk_35_method_26_code 5 = .ok (.lload_n 1, 1) := by decide +kernel
theorem d15_6 : decode jdk_35_method_26_code 6 = .ok (.putfield 273, 3) := by decide +kernel
theorem d15_9 : decode jdk_35_method_26_code 9 = .ok (.return_, 1) := by decide +kernel
theorem pf_rm15 : plainFor (⟨"java/lang/Long", "<init>", "(J)V"⟩ : MethodName) = true := by decide +kernel
theorem ef_rm15 (m : MethodId) (x0 : Addr) (x1 : Int64) : entryFrame m #[(.ref x0), (.long x1)] 3 = mkF m 0 #[.val (.ref x0), .val (.long x1), .second] [] := by first | (simp [entryFrame, mkF, argsToLocals, Value.category]; done) | rfl
def Q_rm15 (Z : State) (a1 : Addr) (q1 : Int64) (u1 : Value) (h0 : Heap) (n0 : Nat) (v : Option Value) (h : Heap) (L : List Loc) : Prop := v = none ∧ Fr n0 L ∧ Keep h0 h [a1]
set_option maxRecDepth 65536 in
set_option maxHeartbeats 40000000 in
theorem rm15 (l : Launch) (Z : State) (a0 : Array Value) (hw : ∀ d ∈ tables_1, d.before a0 Z = true) (ws : List Jvm.Cond) (a1 : Addr) (q1 : Int64) (u1 : Value) (h0 : Heap) (n0 : Nat) (Z0 : n0 ≤ h0.size) (E_0 : Exa Z h0 a1 "java/lang/Long") (F_00 : Fld Z h0 a1 "java/lang/Long" "value" "J" u1) (n_a1 : n0 ≤ a1) :
    MetFree l (⟨"java/lang/Long", "<init>", "(J)V"⟩ : MethodName) (head1 (Jvm.Cond.code (⟨"java/lang/Long", "<init>", "(J)V"⟩ : MethodName) jdk_35_method_26_code 3 none :: ws) ({ frames := 2, cells := 0, slots := 0, locals := 24 } : Room)) (fun a U => a = #[(.ref a1), (.long q1)] ∧ Z.Warmed39 U.vm ∧ U.heap = h0) (fun _ _ _ _ _ => True) (fun _ U o U' => ∃ v L, o = .returned v ∧ Q_rm15 Z a1 q1 u1 h0 n0 v U'.heap L ∧ FrameEnd U o U' L ({ frames := 2, cells := 0, slots := 0, locals := 24 } : Room).cells ({ frames := 2, cells := 0, slots := 0, locals := 24 } : Room).slots) := by
  refine MetFree.of_bodySF pf_rm15 hisR ?_
  intro p e s m args below meth c s₁ Bd hml0 hP hK
  obtain ⟨rfl, hZ, hh⟩ := hP
  have hx := Bd.exec
  have hby := Bd.bytes
  have hml : c.maxLocals = 3 := hml0
  have hown : s.vm.findClass "java/lang/Long" = some m.cls := findClass_of_methodNamed Bd.named
  have hnm := (name_of_methodNamed Bd.named Bd.method).1
  have X0 : Stand p l e ({ frames := 2, cells := 0, slots := 0, locals := 24 } : Room) s m #[(.ref a1), (.long q1)] below meth c s₁ [] 0 0 := Stand.of_body Bd
  have e0 : s₁.heap = h0 := by rw [← hh, Bd.state]; rfl
  have N0 := Fr.nil n0
  have pre0 : ∀ t, Steps p.tables e below (s₁.setTop (mkF m 0 #[.val (.ref a1), .val (.long q1), .second] [])) t → Steps p.tables e below (s₁.setTop (entryFrame m #[(.ref a1), (.long q1)] 3)) t := fun t k => castTop (ef_rm15 m a1 q1) k
  have R0 : ∀ t, Steps p.tables e below (s₁.setTop (mkF m 0 #[.val (.ref a1), .val (.long q1), .second] [])) t → Steps p.tables e below (s₁.setTop (mkF m 0 #[.val (.ref a1), .val (.long q1), .second] [])) t := fun _ k => k
  have R15 : ∀ t, Steps p.tables e below (s₁.setTop (mkF m 1 #[.val (.ref a1), .val (.long q1), .second] [(.ref a1)])) t → Steps p.tables e below (s₁.setTop (mkF m 0 #[.val (.ref a1), .val (.long q1), .second] [])) t := by
    intro t k
    refine R0 t ?_
    refine XS.aloadN X0.here hx rfl (hb hby d15_0) rfl rfl ?_
    exact k
  obtain ⟨_, _, ⟨T16, L16, k16, n16⟩, -, X16, ⟨Lc16, hQ16, l16, y16, z16⟩, st16⟩ := X0.specialBack hx (y := (⟨"java/lang/Number", "<init>", "()V"⟩ : MethodName)) rfl hown (mvT hZ (hw _ (List.mem_of_getElem? (i := 88) rfl))) (mvT hZ (hw _ (List.mem_of_getElem? (i := 89) rfl))) (mvT hZ (hw _ (List.mem_of_getElem? (i := 93) rfl))) (by decide) (backOf (W := 0) (rm16 l Z a0 hw [] a1  h0 n0 Z0 ) hZ (hw _ (List.mem_of_getElem? (i := 93) rfl)) (hw _ (List.mem_of_getElem? (i := 92) rfl)) (by decide) (by decide)) (g := (mkF m 1 #[.val (.ref a1), .val (.long q1), .second] [(.ref a1)])) rfl (by rw [hml]; rfl) (Steps.refl _) (a := a1) (argsL := []) (rest := []) (lenOf pd_0 rfl) rfl (by show 2 * 0 + _ ≤ _; exact Nat.le_of_eq rfl) (hb hby d15_1) (fun _ _ => ⟨rfl, e0, (by decide : 0 + 0 ≤ _), (by decide : 0 + 0 ≤ _)⟩)
  dsimp only [Pt.U, Pt.locs, Pt.cells, Pt.slots] at X16 l16 y16 z16 st16 hQ16
  subst l16 y16 z16
  obtain ⟨rfl, M16, e16⟩ := hQ16
  have N16 := Fr.app N0 M16
  have R17 : ∀ t, Steps p.tables e below (T16.setTop (mkF m 4 #[.val (.ref a1), .val (.long q1), .second] [])) t → Steps p.tables e below (s₁.setTop (mkF m 0 #[.val (.ref a1), .val (.long q1), .second] [])) t := fun t k => R15 t (st16.trans k)
  have R18 : ∀ t, Steps p.tables e below (T16.setTop (mkF m 6 #[.val (.ref a1), .val (.long q1), .second] [(.long q1), (.ref a1)])) t → Steps p.tables e below (s₁.setTop (mkF m 0 #[.val (.ref a1), .val (.long q1), .second] [])) t := by
    intro t k
    refine R17 t ?_
    refine XS.aloadN X16.here hx rfl (hb hby d15_4) rfl rfl ?_
    refine XS.lloadN X16.here hx rfl (hb hby d15_5) rfl ?_
    exact k
  obtain ⟨T19, h19, X19, e19, W19, st19⟩ := putF X16 hx hZ hown (host := "") (Or.inl (hw _ (List.mem_of_getElem? (i := 95) rfl))) Via.refl e16 F_00 E_0 (Or.inr ⟨(hw _ (List.mem_of_getElem? (i := 96) rfl)), rfl, hnm⟩) (hw _ (List.mem_of_getElem? (i := 83) rfl)) (ty := .long) (by decide) rfl rfl (g := (mkF m 6 #[.val (.ref a1), .val (.long q1), .second] [(.long q1), (.ref a1)])) rfl rfl (hb hby d15_6)
  have N19 := Fr.snoc X19 N16 n_a1
  have Z19 : n0 ≤ h19.size := Nat.le_trans Z0 (Keep.of_wr W19).1
  have K19 : Keep h0 h19 [a1] := (Keep.refl h0 [a1]).wr W19 (Or.inl (List.mem_of_getElem? (i := 0) rfl))
  have E_20 : Exa Z h19 a1 "java/lang/Long" := E_0.wr W19
  have F_21 : Fld Z h19 a1 "java/lang/Long" "value" "J" (.long q1) := F_00.same W19
  have R22 : ∀ t, Steps p.tables e below (T19.setTop (mkF m 9 #[.val (.ref a1), .val (.long q1), .second] [])) t → Steps p.tables e below (s₁.setTop (mkF m 0 #[.val (.ref a1), .val (.long q1), .second] [])) t := fun t k => R18 t (st19 _ k)
  obtain ⟨fs, hr, hrun, hended, hW, hsame⟩ := X19.leave (v := none) (fun _ => rfl)
  refine ⟨_, _, pre0 _ (R22 _ (X19.returnOut hx Bd.returns (hb hby d15_9) hr)), hrun, hended, _, _, rfl, ?_, ⟨_, rfl⟩, hW, hsame.mono (by decide) (by decide)⟩
  show Q_rm15 Z a1 q1 u1 h0 n0 _ T19.heap _
  rw [e19]
  exact ⟨rfl, N19, K19⟩
theorem d14_0 : decode jdk_33_method_22_code 0 = .ok (.iload_n 0, 1) := by decide +kernel
theorem d14_1 : decode jdk_33_method_22_code 1 = .ok (.bipush (-128), 2) := by decide +kernel
theorem d14_3 : decode jdk_33_method_22_code 3 = .ok (.if_icmp .lt 20, 3) := by decide +kernel
theorem d14_6 : decode jdk_33_method_22_code 6 = .ok (.iload_n 0, 1) := by decide +kernel
theorem d14_7 : decode jdk_33_method_22_code 7 = .ok (.getstatic 191, 3) := by decide +kernel
theorem d14_10 : decode jdk_33_method_22_code 10 = .ok (.if_icmp .gt 13, 3) := by decide +kernel
theorem d14_13 : decode jdk_33_method_22_code 13 = .ok (.getstatic 195, 3) := by decide +kernel
theorem d14_16 : decode jdk_33_method_22_code 16 = .ok (.iload_n 0, 1) := by decide +kernel
theorem d14_17 : decode jdk_33_method_22_code 17 = .ok (.sipush 128, 3) := by decide +kernel
theorem d14_20 : decode jdk_33_method_22_code 20 = .ok (.iadd, 1) := by decide +kernel
theorem d14_21 : decode jdk_33_method_22_code 21 = .ok (.aaload, 1) := by decide +kernel
theorem d14_22 : decode jdk_33_method_22_code 22 = .ok (.areturn, 1) := by decide +kernel
theorem d14_23 : decode jdk_33_method_22_code 23 = .ok (.new 1, 3) := by decide +kernel
theorem d14_26 : decode jdk_33_method_22_code 26 = .ok (.dup, 1) := by decide +kernel
theorem d14_27 : decode jdk_33_method_22_code 27 = .ok (.iload_n 0, 1) := by decide +kernel
theorem d14_28 : decode jdk_33_method_22_code 28 = .ok (.invokespecial 199, 3) := by decide +kernel
theorem d14_31 : decode jdk_33_method_22_code 31 = .ok (.areturn, 1) := by decide +kernel
theorem pf_rm14 : plainFor (⟨"java/lang/Integer", "valueOf", "(I)Ljava/lang/Integer;"⟩ : MethodName) = true := by decide +kernel
theorem pd_1 : parseMethodDescriptor "(I)V" = some ⟨[.int], none⟩ := by decide +kernel
theorem ef_rm14 (m : MethodId) (x0 : Int32) : entryFrame m #[(.int x0)] 1 = mkF m 0 #[.val (.int x0)] [] := by first | (simp [entryFrame, mkF, argsToLocals, Value.category]; done) | rfl
def Q_rm14 (Z : State) (p1 : Int32) (ca : Addr) (cl : Cell) (h0 : Heap) (n0 : Nat) (v : Option Value) (h : Heap) (L : List Loc) : Prop := ∃ b : Addr, v = some (.ref b) ∧ Fr n0 L ∧ Keep h0 h []
set_option maxRecDepth 65536 in
set_option maxHeartbeats 40000000 in
theorem rm14 (l : Launch) (Z : State) (a0 : Array Value) (hw : ∀ d ∈ tables_1, d.before a0 Z = true) (ws : List Jvm.Cond) (p1 : Int32) (ca : Addr) (cl : Cell) (h0 : Heap) (n0 : Nat) (Z0 : n0 ≤ h0.size) (S_2 : Sta Z h0 "java/lang/Integer$IntegerCache" "high" "I" (.int (127 : Int32))) (S_3 : Sta Z h0 "java/lang/Integer$IntegerCache" "cache" "[Ljava/lang/Integer;" (.ref ca)) (A_1 : Arr Z h0 ca cl (.object "java/lang/Integer")) (z_1 : cl.slots.size = 256) (el_1 : ∀ i, i < 256 → ∃ r : Addr, cl.slots[i]? = some (.ref r)) :
    MetFree l (⟨"java/lang/Integer", "valueOf", "(I)Ljava/lang/Integer;"⟩ : MethodName) (head1 (Jvm.Cond.code (⟨"java/lang/Integer", "valueOf", "(I)Ljava/lang/Integer;"⟩ : MethodName) jdk_33_method_22_code 1 (some (.object "java/lang/Integer")) :: ws) ({ frames := 3, cells := 1, slots := 1, locals := 38 } : Room)) (fun a U => a = #[(.int p1)] ∧ Z.Warmed39 U.vm ∧ U.heap = h0) (fun _ _ _ _ _ => True) (fun _ U o U' => ∃ v L, o = .returned v ∧ Q_rm14 Z p1 ca cl h0 n0 v U'.heap L ∧ FrameEnd U o U' L ({ frames := 3, cells := 1, slots := 1, locals := 38 } : Room).cells ({ frames := 3, cells := 1, slots := 1, locals := 38 } : Room).slots) := by
  refine MetFree.of_bodySF pf_rm14 hisR ?_
  intro p e s m args below meth c s₁ Bd hml0 hP hK
  obtain ⟨rfl, hZ, hh⟩ := hP
  have hx := Bd.exec
  have hby := Bd.bytes
  have hml : c.maxLocals = 1 := hml0
  have hown : s.vm.findClass "java/lang/Integer" = some m.cls := findClass_of_methodNamed Bd.named
  have hnm := (name_of_methodNamed Bd.named Bd.method).1
  have X0 : Stand p l e ({ frames := 3, cells := 1, slots := 1, locals := 38 } : Room) s m #[(.int p1)] below meth c s₁ [] 0 0 := Stand.of_body Bd
  have e0 : s₁.heap = h0 := by rw [← hh, Bd.state]; rfl
  have N0 := Fr.nil n0
  have pre0 : ∀ t, Steps p.tables e below (s₁.setTop (mkF m 0 #[.val (.int p1)] [])) t → Steps p.tables e below (s₁.setTop (entryFrame m #[(.int p1)] 1)) t := fun t k => castTop (ef_rm14 m p1) k
  have R0 : ∀ t, Steps p.tables e below (s₁.setTop (mkF m 0 #[.val (.int p1)] [])) t → Steps p.tables e below (s₁.setTop (mkF m 0 #[.val (.int p1)] [])) t := fun _ k => k
  have R23 : ∀ t, Steps p.tables e below (s₁.setTop (mkF m 3 #[.val (.int p1)] [(.int (-128 : Int32)), (.int p1)])) t → Steps p.tables e below (s₁.setTop (mkF m 0 #[.val (.int p1)] [])) t := by
    intro t k
    refine R0 t ?_
    refine XS.iloadN X0.here hx rfl (hb hby d14_0) rfl ?_
    refine XS.bipush X0.here hx rfl (hb hby d14_1) ?_
    exact k
  by_cases hc : p1 < (-128 : Int32)
  · have R24 : ∀ t, Steps p.tables e below (s₁.setTop (mkF m 23 #[.val (.int p1)] [])) t → Steps p.tables e below (s₁.setTop (mkF m 0 #[.val (.int p1)] [])) t := by
      intro t k
      refine R23 t ?_
      refine XS.icmpYes X0.here hx rfl (pc0 := 3) (pc' := 23) rfl (hb hby d14_3) rfl (tlt hc).1 (by decide) (by decide) ?_
      exact k
    obtain ⟨T25, h25, X25, e25, x25, A25, D25, -, st25⟩ := newO X0 hx hZ hown (hw _ (List.mem_of_getElem? (i := 97) rfl)) (hw _ (List.mem_of_getElem? (i := 98) rfl)) (hw _ (List.mem_of_getElem? (i := 77) rfl)) e0 (g := (mkF m 23 #[.val (.int p1)] [])) rfl (hb hby d14_23) (by decide) (by decide)
    obtain ⟨b1, g_b1⟩ : ∃ z, z = h0.size := ⟨_, rfl⟩
    rw [← g_b1] at A25 D25 st25
    have n_b1 : n0 ≤ b1 := Nat.le_trans Z0 (Nat.le_of_eq g_b1.symm)
    have z_b1 : h0.size ≤ b1 := Nat.le_trans (Keep.refl h0 []).1 (Nat.le_of_eq g_b1.symm)
    have Z25 : n0 ≤ h25.size := Nat.le_trans Z0 x25.1
    have K25 : Keep h0 h25 [] := (Keep.refl h0 []).ext x25
    have F_26 : Fld Z h25 b1 "java/lang/Integer" "value" "I" (.int (0 : Int32)) := D25 (Or.inr (hw _ (List.mem_of_getElem? (i := 106) rfl))) (ty := .int) (by decide)
    have R27 : ∀ t, Steps p.tables e below (T25.setTop (mkF m 26 #[.val (.int p1)] [(.ref b1)])) t → Steps p.tables e below (s₁.setTop (mkF m 0 #[.val (.int p1)] [])) t := fun t k => R24 t (st25 _ k)
    have R28 : ∀ t, Steps p.tables e below (T25.setTop (mkF m 28 #[.val (.int p1)] [(.int p1), (.ref b1), (.ref b1)])) t → Steps p.tables e below (s₁.setTop (mkF m 0 #[.val (.int p1)] [])) t := by
      intro t k
      refine R27 t ?_
      refine XS.dup X25.here hx rfl (hb hby d14_26) rfl rfl ?_
      refine XS.iloadN X25.here hx rfl (hb hby d14_27) rfl ?_
      exact k
    obtain ⟨_, _, ⟨T29, L29, k29, n29⟩, -, X29, ⟨Lc29, hQ29, l29, y29, z29⟩, st29⟩ := X25.specialBack hx (y := (⟨"java/lang/Integer", "<init>", "(I)V"⟩ : MethodName)) rfl hown (mvT hZ (hw _ (List.mem_of_getElem? (i := 99) rfl))) (mvT hZ (hw _ (List.mem_of_getElem? (i := 100) rfl))) (mvT hZ (hw _ (List.mem_of_getElem? (i := 102) rfl))) (by decide) (backOf (W := 1) (rm17 l Z a0 hw [] b1 p1 (.int (0 : Int32)) h25 n0 Z25 A25 F_26 n_b1) hZ (hw _ (List.mem_of_getElem? (i := 102) rfl)) (hw _ (List.mem_of_getElem? (i := 77) rfl)) (by decide) (by decide)) (g := (mkF m 28 #[.val (.int p1)] [(.int p1), (.ref b1), (.ref b1)])) rfl (by rw [hml]; rfl) (Steps.refl _) (a := b1) (argsL := [(.int p1)]) (rest := [(.ref b1)]) (lenOf pd_1 rfl) rfl (by show 2 * 0 + _ ≤ _; exact Nat.le_of_eq rfl) (hb hby d14_28) (fun _ _ => ⟨rfl, e25, (by decide : 1 + 0 ≤ _), (by decide : 1 + 0 ≤ _)⟩)
    dsimp only [Pt.U, Pt.locs, Pt.cells, Pt.slots] at X29 l29 y29 z29 st29 hQ29
    subst l29 y29 z29
    obtain ⟨rfl, M29, J29⟩ := hQ29
    have Z29 : n0 ≤ T29.heap.size := Nat.le_trans Z25 J29.1
    have K29 : Keep h0 T29.heap [] := K25.trans J29 (allS (Or.inr z_b1) all0)
    have E_30 : Exa Z T29.heap b1 "java/lang/Integer" := A25.keep J29
    have N29 := Fr.app N0 M29
    have R31 : ∀ t, Steps p.tables e below (T29.setTop (mkF m 31 #[.val (.int p1)] [(.ref b1)])) t → Steps p.tables e below (s₁.setTop (mkF m 0 #[.val (.int p1)] [])) t := fun t k => R28 t (st29.trans k)
    obtain ⟨fs, hr, hrun, hended, hW, hsame⟩ := X29.leave (v := some (.ref b1)) (fun h => by rw [Bd.returns] at h; cases h)
    refine ⟨_, _, pre0 _ (R31 _ (retOut X29 hx (t := (.object "java/lang/Integer")) Bd.returns rfl (Or.inr (Or.inr (Or.inr (Or.inr ⟨rfl, rfl, rfl⟩)))) (hb hby d14_31) hr)), hrun, hended, _, _, rfl, ?_, ⟨_, rfl⟩, hW, hsame.mono (by decide) (by decide)⟩
    show Q_rm14 Z p1 ca cl h0 n0 _ T29.heap _
    exact ⟨_, rfl, N29, K29⟩
  · have R32 : ∀ t, Steps p.tables e below (s₁.setTop (mkF m 6 #[.val (.int p1)] [])) t → Steps p.tables e below (s₁.setTop (mkF m 0 #[.val (.int p1)] [])) t := by
      intro t k
      refine R23 t ?_
      refine XS.icmpNo X0.here hx rfl (hb hby d14_3) rfl (flt hc).1 ?_
      exact k
    have R33 : ∀ t, Steps p.tables e below (s₁.setTop (mkF m 7 #[.val (.int p1)] [(.int p1)])) t → Steps p.tables e below (s₁.setTop (mkF m 0 #[.val (.int p1)] [])) t := by
      intro t k
      refine R32 t ?_
      refine XS.iloadN X0.here hx rfl (hb hby d14_6) rfl ?_
      exact k
    obtain ⟨T34, X34, e34, st34⟩ := getS2 X0 hx hZ hown (host := "") (Or.inl (hw _ (List.mem_of_getElem? (i := 79) rfl))) Via.refl e0 S_2 (g := (mkF m 7 #[.val (.int p1)] [(.int p1)])) rfl (hb hby d14_7)
    have R35 : ∀ t, Steps p.tables e below (T34.setTop (mkF m 10 #[.val (.int p1)] [(.int (127 : Int32)), (.int p1)])) t → Steps p.tables e below (s₁.setTop (mkF m 0 #[.val (.int p1)] [])) t := fun t k => R33 t (st34 _ k)
    by_cases hd : (127 : Int32) < p1
    · have R36 : ∀ t, Steps p.tables e below (T34.setTop (mkF m 23 #[.val (.int p1)] [])) t → Steps p.tables e below (s₁.setTop (mkF m 0 #[.val (.int p1)] [])) t := by
        intro t k
        refine R35 t ?_
        refine XS.icmpYes X34.here hx rfl (pc0 := 10) (pc' := 23) rfl (hb hby d14_10) rfl (tlt hd).2.2.1 (by decide) (by decide) ?_
        exact k
      obtain ⟨T37, h37, X37, e37, x37, A37, D37, -, st37⟩ := newO X34 hx hZ hown (hw _ (List.mem_of_getElem? (i := 97) rfl)) (hw _ (List.mem_of_getElem? (i := 98) rfl)) (hw _ (List.mem_of_getElem? (i := 77) rfl)) e34 (g := (mkF m 23 #[.val (.int p1)] [])) rfl (hb hby d14_23) (by decide) (by decide)
      obtain ⟨b1, g_b1⟩ : ∃ z, z = h0.size := ⟨_, rfl⟩
      rw [← g_b1] at A37 D37 st37
      have n_b1 : n0 ≤ b1 := Nat.le_trans Z0 (Nat.le_of_eq g_b1.symm)
      have z_b1 : h0.size ≤ b1 := Nat.le_trans (Keep.refl h0 []).1 (Nat.le_of_eq g_b1.symm)
      have Z37 : n0 ≤ h37.size := Nat.le_trans Z0 x37.1
      have K37 : Keep h0 h37 [] := (Keep.refl h0 []).ext x37
      have F_38 : Fld Z h37 b1 "java/lang/Integer" "value" "I" (.int (0 : Int32)) := D37 (Or.inr (hw _ (List.mem_of_getElem? (i := 106) rfl))) (ty := .int) (by decide)
      have R39 : ∀ t, Steps p.tables e below (T37.setTop (mkF m 26 #[.val (.int p1)] [(.ref b1)])) t → Steps p.tables e below (s₁.setTop (mkF m 0 #[.val (.int p1)] [])) t := fun t k => R36 t (st37 _ k)
      have R40 : ∀ t, Steps p.tables e below (T37.setTop (mkF m 28 #[.val (.int p1)] [(.int p1), (.ref b1), (.ref b1)])) t → Steps p.tables e below (s₁.setTop (mkF m 0 #[.val (.int p1)] [])) t := by
        intro t k
        refine R39 t ?_
        refine XS.dup X37.here hx rfl (hb hby d14_26) rfl rfl ?_
        refine XS.iloadN X37.here hx rfl (hb hby d14_27) rfl ?_
        exact k
      obtain ⟨_, _, ⟨T41, L41, k41, n41⟩, -, X41, ⟨Lc41, hQ41, l41, y41, z41⟩, st41⟩ := X37.specialBack hx (y := (⟨"java/lang/Integer", "<init>", "(I)V"⟩ : MethodName)) rfl hown (mvT hZ (hw _ (List.mem_of_getElem? (i := 99) rfl))) (mvT hZ (hw _ (List.mem_of_getElem? (i := 100) rfl))) (mvT hZ (hw _ (List.mem_of_getElem? (i := 102) rfl))) (by decide) (backOf (W := 1) (rm17 l Z a0 hw [] b1 p1 (.int (0 : Int32)) h37 n0 Z37 A37 F_38 n_b1) hZ (hw _ (List.mem_of_getElem? (i := 102) rfl)) (hw _ (List.mem_of_getElem? (i := 77) rfl)) (by decide) (by decide)) (g := (mkF m 28 #[.val (.int p1)] [(.int p1), (.ref b1), (.ref b1)])) rfl (by rw [hml]; rfl) (Steps.refl _) (a := b1) (argsL := [(.int p1)]) (rest := [(.ref b1)]) (lenOf pd_1 rfl) rfl (by show 2 * 0 + _ ≤ _; exact Nat.le_of_eq rfl) (hb hby d14_28) (fun _ _ => ⟨rfl, e37, (by decide : 1 + 0 ≤ _), (by decide : 1 + 0 ≤ _)⟩)
      dsimp only [Pt.U, Pt.locs, Pt.cells, Pt.slots] at X41 l41 y41 z41 st41 hQ41
      subst l41 y41 z41
      obtain ⟨rfl, M41, J41⟩ := hQ41
      have Z41 : n0 ≤ T41.heap.size := Nat.le_trans Z37 J41.1
      have K41 : Keep h0 T41.heap [] := K37.trans J41 (allS (Or.inr z_b1) all0)
      have E_42 : Exa Z T41.heap b1 "java/lang/Integer" := A37.keep J41
      have N41 := Fr.app N0 M41
      have R43 : ∀ t, Steps p.tables e below (T41.setTop (mkF m 31 #[.val (.int p1)] [(.ref b1)])) t → Steps p.tables e below (s₁.setTop (mkF m 0 #[.val (.int p1)] [])) t := fun t k => R40 t (st41.trans k)
      obtain ⟨fs, hr, hrun, hended, hW, hsame⟩ := X41.leave (v := some (.ref b1)) (fun h => by rw [Bd.returns] at h; cases h)
      refine ⟨_, _, pre0 _ (R43 _ (retOut X41 hx (t := (.object "java/lang/Integer")) Bd.returns rfl (Or.inr (Or.inr (Or.inr (Or.inr ⟨rfl, rfl, rfl⟩)))) (hb hby d14_31) hr)), hrun, hended, _, _, rfl, ?_, ⟨_, rfl⟩, hW, hsame.mono (by decide) (by decide)⟩
      show Q_rm14 Z p1 ca cl h0 n0 _ T41.heap _
      exact ⟨_, rfl, N41, K41⟩
    · have R44 : ∀ t, Steps p.tables e below (T34.setTop (mkF m 13 #[.val (.int p1)] [])) t → Steps p.tables e below (s₁.setTop (mkF m 0 #[.val (.int p1)] [])) t := by
        intro t k
        refine R35 t ?_
        refine XS.icmpNo X34.here hx rfl (hb hby d14_10) rfl (flt hd).2.2.1 ?_
        exact k
      obtain ⟨T45, X45, e45, st45⟩ := getS2 X34 hx hZ hown (host := "") (Or.inl (hw _ (List.mem_of_getElem? (i := 81) rfl))) Via.refl e34 S_3 (g := (mkF m 13 #[.val (.int p1)] [])) rfl (hb hby d14_13)
      have R46 : ∀ t, Steps p.tables e below (T45.setTop (mkF m 16 #[.val (.int p1)] [(.ref ca)])) t → Steps p.tables e below (s₁.setTop (mkF m 0 #[.val (.int p1)] [])) t := fun t k => R44 t (st45 _ k)
      have R47 : ∀ t, Steps p.tables e below (T45.setTop (mkF m 21 #[.val (.int p1)] [(.int (p1 + (128 : Int32))), (.ref ca)])) t → Steps p.tables e below (s₁.setTop (mkF m 0 #[.val (.int p1)] [])) t := by
        intro t k
        refine R46 t ?_
        refine XS.iloadN X45.here hx rfl (hb hby d14_16) rfl ?_
        refine XS.sipush X45.here hx rfl (hb hby d14_17) ?_
        refine XS.iadd X45.here hx rfl (hb hby d14_20) rfl ?_
        exact k
      obtain ⟨hj1, hj2⟩ := own_ix p1 hc hd
      obtain ⟨rr, hrr⟩ := el_1 _ hj2
      have hin : ¬ ((p1 + (128 : Int32)) < 0 ∨ cl.slots.size ≤ ((p1 + (128 : Int32))).toNatClampNeg) := by rw [z_1]; exact fun q => q.elim hj1 (fun u => absurd hj2 (Nat.not_lt.mpr u))
      have R48 : ∀ t, Steps p.tables e below (T45.setTop (mkF m 22 #[.val (.int p1)] [(.ref rr)])) t → Steps p.tables e below (s₁.setTop (mkF m 0 #[.val (.int p1)] [])) t := by
        intro t k
        refine R47 t ?_
        refine X45.aaload hx (j := (p1 + (128 : Int32))) (v := (.ref rr)) (by rw [e45]; exact A_1.1) (State.isArrayOf_alike hZ.alike A_1.2.1) rfl A_1.2.2 hin hrr (g := (mkF m 21 #[.val (.int p1)] [(.int (p1 + (128 : Int32))), (.ref ca)])) rfl rfl (hb hby d14_21) _ ?_
        exact k
      obtain ⟨fs, hr, hrun, hended, hW, hsame⟩ := X45.leave (v := some (.ref rr)) (fun h => by rw [Bd.returns] at h; cases h)
      refine ⟨_, _, pre0 _ (R48 _ (retOut X45 hx (t := (.object "java/lang/Integer")) Bd.returns rfl (Or.inr (Or.inr (Or.inr (Or.inr ⟨rfl, rfl, rfl⟩)))) (hb hby d14_22) hr)), hrun, hended, _, _, rfl, ?_, ⟨_, rfl⟩, hW, hsame.mono (by decide) (by decide)⟩
      show Q_rm14 Z p1 ca cl h0 n0 _ T45.heap _
      rw [e45]
      exact ⟨_, rfl, N0, Keep.refl _ _⟩
theorem d13_0 : decode jdk_35_method_24_code 0 = .ok (.sipush 128, 3) := by decide +kernel
theorem d13_3 : decode jdk_35_method_24_code 3 = .ok (.istore_n 2, 1) := by decide +kernel
theorem d13_4 : decode jdk_35_method_24_code 4 = .ok (.lload_n 0, 1) := by decide +kernel
theorem d13_5 : decode jdk_35_method_24_code 5 = .ok (.ldc2_w 230, 3) := by decide +kernel
theorem d13_8 : decode jdk_35_method_24_code 8 = .ok (.lcmp, 1) := by decide +kernel
theorem d13_9 : decode jdk_35_method_24_code 9 = .ok (.ifCond .lt 22, 3) := by decide +kernel
theorem d13_12 : decode jdk_35_method_24_code 12 = .ok (.lload_n 0, 1) := by decide +kernel
theorem d13_13 : decode jdk_35_method_24_code 13 = .ok (.ldc2_w 232, 3) := by decide +kernel
theorem d13_16 : decode jdk_35_method_24_code 16 = .ok (.lcmp, 1) := by decide +kernel
theorem d13_17 : decode jdk_35_method_24_code 17 = .ok (.ifCond .gt 14, 3) := by decide +kernel
theorem d13_20 : decode jdk_35_method_24_code 20 = .ok (.getstatic 234, 3) := by decide +kernel
theorem d13_23 : decode jdk_35_method_24_code 23 = .ok (.lload_n 0, 1) := by decide +kernel
theorem d13_24 : decode jdk_35_method_24_code 24 = .ok (.l2i, 1) := by decide +kernel
theorem d13_25 : decode jdk_35_method_24_code 25 = .ok (.sipush 128, 3) := by decide +kernel
theorem d13_28 : decode jdk_35_method_24_code 28 = .ok (.iadd, 1) := by decide +kernel
theorem d13_29 : decode jdk_35_method_24_code 29 = .ok (.aaload, 1) := by decide +kernel
theorem d13_30 : decode jdk_35_method_24_code 30 = .ok (.areturn, 1) := by decide +kernel
theorem d13_31 : decode jdk_35_method_24_code 31 = .ok (.new 1, 3) := by decide +kernel
theorem d13_34 : decode jdk_35_method_24_code 34 = .ok (.dup, 1) := by decide +kernel
theorem d13_35 : decode jdk_35_method_24_code 35 = .ok (.lload_n 0, 1) := by decide +kernel
theorem d13_36 : decode jdk_35_method_24_code 36 = .ok (.invokespecial 240, 3) := by decide +kernel
theorem d13_39 : decode jdk_35_method_24_code 39 = .ok (.areturn, 1) := by decide +kernel
theorem pf_rm13 : plainFor (⟨"java/lang/Long", "valueOf", "(J)Ljava/lang/Long;"⟩ : MethodName) = true := by decide +kernel
theorem pd_2 : parseMethodDescriptor "(J)V" = some ⟨[.long], none⟩ := by decide +kernel
theorem ef_rm13 (m : MethodId) (x0 : Int64) : entryFrame m #[(.long x0)] 3 = mkF m 0 #[.val (.long x0), .second, .unset] [] := by first | (simp [entryFrame, mkF, argsToLocals, Value.category]; done) | rfl
def Q_rm13 (Z : State) (q1 : Int64) (ca : Addr) (cl : Cell) (h0 : Heap) (n0 : Nat) (v : Option Value) (h : Heap) (L : List Loc) : Prop := ∃ b : Addr, v = some (.ref b) ∧ Fr n0 L ∧ Keep h0 h []
set_option maxRecDepth 65536 in
set_option maxHeartbeats 40000000 in
theorem rm13 (l : Launch) (Z : State) (a0 : Array Value) (hw : ∀ d ∈ tables_1, d.before a0 Z = true) (ws : List Jvm.Cond) (q1 : Int64) (ca : Addr) (cl : Cell) (h0 : Heap) (n0 : Nat) (Z0 : n0 ≤ h0.size) (S_3 : Sta Z h0 "java/lang/Long$LongCache" "cache" "[Ljava/lang/Long;" (.ref ca)) (A_1 : Arr Z h0 ca cl (.object "java/lang/Long")) (z_1 : cl.slots.size = 256) (el_1 : ∀ i, i < 256 → ∃ r : Addr, cl.slots[i]? = some (.ref r)) :
    MetFree l (⟨"java/lang/Long", "valueOf", "(J)Ljava/lang/Long;"⟩ : MethodName) (head1 (Jvm.Cond.code (⟨"java/lang/Long", "valueOf", "(J)Ljava/lang/Long;"⟩ : MethodName) jdk_35_method_24_code 3 (some (.object "java/lang/Long")) :: ws) ({ frames := 3, cells := 1, slots := 1, locals := 39 } : Room)) (fun a U => a = #[(.long q1)] ∧ Z.Warmed39 U.vm ∧ U.heap = h0) (fun _ _ _ _ _ => True) (fun _ U o U' => ∃ v L, o = .returned v ∧ Q_rm13 Z q1 ca cl h0 n0 v U'.heap L ∧ FrameEnd U o U' L ({ frames := 3, cells := 1, slots := 1, locals := 39 } : Room).cells ({ frames := 3, cells := 1, slots := 1, locals := 39 } : Room).slots) := by
  refine MetFree.of_bodySF pf_rm13 hisR ?_
  intro p e s m args below meth c s₁ Bd hml0 hP hK
  obtain ⟨rfl, hZ, hh⟩ := hP
  have hx := Bd.exec
  have hby := Bd.bytes
  have hml : c.maxLocals = 3 := hml0
  have hown : s.vm.findClass "java/lang/Long" = some m.cls := findClass_of_methodNamed Bd.named
  have hnm := (name_of_methodNamed Bd.named Bd.method).1
  have X0 : Stand p l e ({ frames := 3, cells := 1, slots := 1, locals := 39 } : Room) s m #[(.long q1)] below meth c s₁ [] 0 0 := Stand.of_body Bd
  have e0 : s₁.heap = h0 := by rw [← hh, Bd.state]; rfl
  have N0 := Fr.nil n0
  have pre0 : ∀ t, Steps p.tables e below (s₁.setTop (mkF m 0 #[.val (.long q1), .second, .unset] [])) t → Steps p.tables e below (s₁.setTop (entryFrame m #[(.long q1)] 3)) t := fun t k => castTop (ef_rm13 m q1) k
  have R0 : ∀ t, Steps p.tables e below (s₁.setTop (mkF m 0 #[.val (.long q1), .second, .unset] [])) t → Steps p.tables e below (s₁.setTop (mkF m 0 #[.val (.long q1), .second, .unset] [])) t := fun _ k => k
  have R49 : ∀ t, Steps p.tables e below (s₁.setTop (mkF m 9 #[.val (.long q1), .second, .val (.int (128 : Int32))] [(.int (lcmpW q1 (-128 : Int64)))])) t → Steps p.tables e below (s₁.setTop (mkF m 0 #[.val (.long q1), .second, .unset] [])) t := by
    intro t k
    refine R0 t ?_
    refine XS.sipush X0.here hx rfl (hb hby d13_0) ?_
    refine XS.istoreN X0.here hx rfl (hb hby d13_3) rfl (l' := #[.val (.long q1), .second, .val (.int (128 : Int32))]) rfl ?_
    refine XS.lloadN X0.here hx rfl (hb hby d13_4) rfl ?_
    refine X0.ldc2Long hx hown (mvT hZ (hw _ (List.mem_of_getElem? (i := 71) rfl))) (g := (mkF m 5 #[.val (.long q1), .second, .val (.int (128 : Int32))] [(.long q1)])) rfl (hb hby d13_5) _ ?_
    refine XS.lcmp X0.here hx rfl (hb hby d13_8) rfl ?_
    exact k
  by_cases hc : q1 < (-128 : Int64)
  · have R50 : ∀ t, Steps p.tables e below (s₁.setTop (mkF m 31 #[.val (.long q1), .second, .val (.int (128 : Int32))] [])) t → Steps p.tables e below (s₁.setTop (mkF m 0 #[.val (.long q1), .second, .unset] [])) t := by
      intro t k
      refine R49 t ?_
      refine XS.ifYes X0.here hx rfl (pc0 := 9) (pc' := 31) rfl (hb hby d13_9) rfl ((if0 _ _).trans (tlt ((lw_lt _ _).mpr hc)).1) (by decide) (by decide) ?_
      exact k
    obtain ⟨T51, h51, X51, e51, x51, A51, D51, -, st51⟩ := newO X0 hx hZ hown (hw _ (List.mem_of_getElem? (i := 82) rfl)) (hw _ (List.mem_of_getElem? (i := 83) rfl)) (hw _ (List.mem_of_getElem? (i := 69) rfl)) e0 (g := (mkF m 31 #[.val (.long q1), .second, .val (.int (128 : Int32))] [])) rfl (hb hby d13_31) (by decide) (by decide)
    obtain ⟨b1, g_b1⟩ : ∃ z, z = h0.size := ⟨_, rfl⟩
    rw [← g_b1] at A51 D51 st51
    have n_b1 : n0 ≤ b1 := Nat.le_trans Z0 (Nat.le_of_eq g_b1.symm)
    have z_b1 : h0.size ≤ b1 := Nat.le_trans (Keep.refl h0 []).1 (Nat.le_of_eq g_b1.symm)
    have Z51 : n0 ≤ h51.size := Nat.le_trans Z0 x51.1
    have K51 : Keep h0 h51 [] := (Keep.refl h0 []).ext x51
    have F_52 : Fld Z h51 b1 "java/lang/Long" "value" "J" (.long (0 : Int64)) := D51 (Or.inr (hw _ (List.mem_of_getElem? (i := 96) rfl))) (ty := .long) (by decide)
    have R53 : ∀ t, Steps p.tables e below (T51.setTop (mkF m 34 #[.val (.long q1), .second, .val (.int (128 : Int32))] [(.ref b1)])) t → Steps p.tables e below (s₁.setTop (mkF m 0 #[.val (.long q1), .second, .unset] [])) t := fun t k => R50 t (st51 _ k)
    have R54 : ∀ t, Steps p.tables e below (T51.setTop (mkF m 36 #[.val (.long q1), .second, .val (.int (128 : Int32))] [(.long q1), (.ref b1), (.ref b1)])) t → Steps p.tables e below (s₁.setTop (mkF m 0 #[.val (.long q1), .second, .unset] [])) t := by
      intro t k
      refine R53 t ?_
      refine XS.dup X51.here hx rfl (hb hby d13_34) rfl rfl ?_
      refine XS.lloadN X51.here hx rfl (hb hby d13_35) rfl ?_
      exact k
    obtain ⟨_, _, ⟨T55, L55, k55, n55⟩, -, X55, ⟨Lc55, hQ55, l55, y55, z55⟩, st55⟩ := X51.specialBack hx (y := (⟨"java/lang/Long", "<init>", "(J)V"⟩ : MethodName)) rfl hown (mvT hZ (hw _ (List.mem_of_getElem? (i := 84) rfl))) (mvT hZ (hw _ (List.mem_of_getElem? (i := 85) rfl))) (mvT hZ (hw _ (List.mem_of_getElem? (i := 87) rfl))) (by decide) (backOf (W := 1) (rm15 l Z a0 hw [] b1 q1 (.long (0 : Int64)) h51 n0 Z51 A51 F_52 n_b1) hZ (hw _ (List.mem_of_getElem? (i := 87) rfl)) (hw _ (List.mem_of_getElem? (i := 69) rfl)) (by decide) (by decide)) (g := (mkF m 36 #[.val (.long q1), .second, .val (.int (128 : Int32))] [(.long q1), (.ref b1), (.ref b1)])) rfl (by rw [hml]; rfl) (Steps.refl _) (a := b1) (argsL := [(.long q1)]) (rest := [(.ref b1)]) (lenOf pd_2 rfl) rfl (by show 2 * 0 + _ ≤ _; exact Nat.le_of_eq rfl) (hb hby d13_36) (fun _ _ => ⟨rfl, e51, (by decide : 1 + 0 ≤ _), (by decide : 1 + 0 ≤ _)⟩)
    dsimp only [Pt.U, Pt.locs, Pt.cells, Pt.slots] at X55 l55 y55 z55 st55 hQ55
    subst l55 y55 z55
    obtain ⟨rfl, M55, J55⟩ := hQ55
    have Z55 : n0 ≤ T55.heap.size := Nat.le_trans Z51 J55.1
    have K55 : Keep h0 T55.heap [] := K51.trans J55 (allS (Or.inr z_b1) all0)
    have E_56 : Exa Z T55.heap b1 "java/lang/Long" := A51.keep J55
    have N55 := Fr.app N0 M55
    have R57 : ∀ t, Steps p.tables e below (T55.setTop (mkF m 39 #[.val (.long q1), .second, .val (.int (128 : Int32))] [(.ref b1)])) t → Steps p.tables e below (s₁.setTop (mkF m 0 #[.val (.long q1), .second, .unset] [])) t := fun t k => R54 t (st55.trans k)
    obtain ⟨fs, hr, hrun, hended, hW, hsame⟩ := X55.leave (v := some (.ref b1)) (fun h => by rw [Bd.returns] at h; cases h)
    refine ⟨_, _, pre0 _ (R57 _ (retOut X55 hx (t := (.object "java/lang/Long")) Bd.returns rfl (Or.inr (Or.inr (Or.inr (Or.inr ⟨rfl, rfl, rfl⟩)))) (hb hby d13_39) hr)), hrun, hended, _, _, rfl, ?_, ⟨_, rfl⟩, hW, hsame.mono (by decide) (by decide)⟩
    show Q_rm13 Z q1 ca cl h0 n0 _ T55.heap _
    exact ⟨_, rfl, N55, K55⟩
  · have R58 : ∀ t, Steps p.tables e below (s₁.setTop (mkF m 12 #[.val (.long q1), .second, .val (.int (128 : Int32))] [])) t → Steps p.tables e below (s₁.setTop (mkF m 0 #[.val (.long q1), .second, .unset] [])) t := by
      intro t k
      refine R49 t ?_
      refine XS.ifNo X0.here hx rfl (hb hby d13_9) rfl ((if0 _ _).trans (flt (mt (lw_lt _ _).mp hc)).1) ?_
      exact k
    have R59 : ∀ t, Steps p.tables e below (s₁.setTop (mkF m 17 #[.val (.long q1), .second, .val (.int (128 : Int32))] [(.int (lcmpW q1 (127 : Int64)))])) t → Steps p.tables e below (s₁.setTop (mkF m 0 #[.val (.long q1), .second, .unset] [])) t := by
      intro t k
      refine R58 t ?_
      refine XS.lloadN X0.here hx rfl (hb hby d13_12) rfl ?_
      refine X0.ldc2Long hx hown (mvT hZ (hw _ (List.mem_of_getElem? (i := 72) rfl))) (g := (mkF m 13 #[.val (.long q1), .second, .val (.int (128 : Int32))] [(.long q1)])) rfl (hb hby d13_13) _ ?_
      refine XS.lcmp X0.here hx rfl (hb hby d13_16) rfl ?_
      exact k
    by_cases hd : (127 : Int64) < q1
    · have R60 : ∀ t, Steps p.tables e below (s₁.setTop (mkF m 31 #[.val (.long q1), .second, .val (.int (128 : Int32))] [])) t → Steps p.tables e below (s₁.setTop (mkF m 0 #[.val (.long q1), .second, .unset] [])) t := by
        intro t k
        refine R59 t ?_
        refine XS.ifYes X0.here hx rfl (pc0 := 17) (pc' := 31) rfl (hb hby d13_17) rfl ((if0 _ _).trans (tlt ((lw_gt _ _).mpr hd)).2.2.1) (by decide) (by decide) ?_
        exact k
      obtain ⟨T61, h61, X61, e61, x61, A61, D61, -, st61⟩ := newO X0 hx hZ hown (hw _ (List.mem_of_getElem? (i := 82) rfl)) (hw _ (List.mem_of_getElem? (i := 83) rfl)) (hw _ (List.mem_of_getElem? (i := 69) rfl)) e0 (g := (mkF m 31 #[.val (.long q1), .second, .val (.int (128 : Int32))] [])) rfl (hb hby d13_31) (by decide) (by decide)
      obtain ⟨b1, g_b1⟩ : ∃ z, z = h0.size := ⟨_, rfl⟩
      rw [← g_b1] at A61 D61 st61
      have n_b1 : n0 ≤ b1 := Nat.le_trans Z0 (Nat.le_of_eq g_b1.symm)
      have z_b1 : h0.size ≤ b1 := Nat.le_trans (Keep.refl h0 []).1 (Nat.le_of_eq g_b1.symm)
      have Z61 : n0 ≤ h61.size := Nat.le_trans Z0 x61.1
      have K61 : Keep h0 h61 [] := (Keep.refl h0 []).ext x61
      have F_62 : Fld Z h61 b1 "java/lang/Long" "value" "J" (.long (0 : Int64)) := D61 (Or.inr (hw _ (List.mem_of_getElem? (i := 96) rfl))) (ty := .long) (by decide)
      have R63 : ∀ t, Steps p.tables e below (T61.setTop (mkF m 34 #[.val (.long q1), .second, .val (.int (128 : Int32))] [(.ref b1)])) t → Steps p.tables e below (s₁.setTop (mkF m 0 #[.val (.long q1), .second, .unset] [])) t := fun t k => R60 t (st61 _ k)
      have R64 : ∀ t, Steps p.tables e below (T61.setTop (mkF m 36 #[.val (.long q1), .second, .val (.int (128 : Int32))] [(.long q1), (.ref b1), (.ref b1)])) t → Steps p.tables e below (s₁.setTop (mkF m 0 #[.val (.long q1), .second, .unset] [])) t := by
        intro t k
        refine R63 t ?_
        refine XS.dup X61.here hx rfl (hb hby d13_34) rfl rfl ?_
        refine XS.lloadN X61.here hx rfl (hb hby d13_35) rfl ?_
        exact k
      obtain ⟨_, _, ⟨T65, L65, k65, n65⟩, -, X65, ⟨Lc65, hQ65, l65, y65, z65⟩, st65⟩ := X61.specialBack hx (y := (⟨"java/lang/Long", "<init>", "(J)V"⟩ : MethodName)) rfl hown (mvT hZ (hw _ (List.mem_of_getElem? (i := 84) rfl))) (mvT hZ (hw _ (List.mem_of_getElem? (i := 85) rfl))) (mvT hZ (hw _ (List.mem_of_getElem? (i := 87) rfl))) (by decide) (backOf (W := 1) (rm15 l Z a0 hw [] b1 q1 (.long (0 : Int64)) h61 n0 Z61 A61 F_62 n_b1) hZ (hw _ (List.mem_of_getElem? (i := 87) rfl)) (hw _ (List.mem_of_getElem? (i := 69) rfl)) (by decide) (by decide)) (g := (mkF m 36 #[.val (.long q1), .second, .val (.int (128 : Int32))] [(.long q1), (.ref b1), (.ref b1)])) rfl (by rw [hml]; rfl) (Steps.refl _) (a := b1) (argsL := [(.long q1)]) (rest := [(.ref b1)]) (lenOf pd_2 rfl) rfl (by show 2 * 0 + _ ≤ _; exact Nat.le_of_eq rfl) (hb hby d13_36) (fun _ _ => ⟨rfl, e61, (by decide : 1 + 0 ≤ _), (by decide : 1 + 0 ≤ _)⟩)
      dsimp only [Pt.U, Pt.locs, Pt.cells, Pt.slots] at X65 l65 y65 z65 st65 hQ65
      subst l65 y65 z65
      obtain ⟨rfl, M65, J65⟩ := hQ65
      have Z65 : n0 ≤ T65.heap.size := Nat.le_trans Z61 J65.1
      have K65 : Keep h0 T65.heap [] := K61.trans J65 (allS (Or.inr z_b1) all0)
      have E_66 : Exa Z T65.heap b1 "java/lang/Long" := A61.keep J65
      have N65 := Fr.app N0 M65
      have R67 : ∀ t, Steps p.tables e below (T65.setTop (mkF m 39 #[.val (.long q1), .second, .val (.int (128 : Int32))] [(.ref b1)])) t → Steps p.tables e below (s₁.setTop (mkF m 0 #[.val (.long q1), .second, .unset] [])) t := fun t k => R64 t (st65.trans k)
      obtain ⟨fs, hr, hrun, hended, hW, hsame⟩ := X65.leave (v := some (.ref b1)) (fun h => by rw [Bd.returns] at h; cases h)
      refine ⟨_, _, pre0 _ (R67 _ (retOut X65 hx (t := (.object "java/lang/Long")) Bd.returns rfl (Or.inr (Or.inr (Or.inr (Or.inr ⟨rfl, rfl, rfl⟩)))) (hb hby d13_39) hr)), hrun, hended, _, _, rfl, ?_, ⟨_, rfl⟩, hW, hsame.mono (by decide) (by decide)⟩
      show Q_rm13 Z q1 ca cl h0 n0 _ T65.heap _
      exact ⟨_, rfl, N65, K65⟩
    · have R68 : ∀ t, Steps p.tables e below (s₁.setTop (mkF m 20 #[.val (.long q1), .second, .val (.int (128 : Int32))] [])) t → Steps p.tables e below (s₁.setTop (mkF m 0 #[.val (.long q1), .second, .unset] [])) t := by
        intro t k
        refine R59 t ?_
        refine XS.ifNo X0.here hx rfl (hb hby d13_17) rfl ((if0 _ _).trans (flt (mt (lw_gt _ _).mp hd)).2.2.1) ?_
        exact k
      obtain ⟨T69, X69, e69, st69⟩ := getS2 X0 hx hZ hown (host := "") (Or.inl (hw _ (List.mem_of_getElem? (i := 73) rfl))) Via.refl e0 S_3 (g := (mkF m 20 #[.val (.long q1), .second, .val (.int (128 : Int32))] [])) rfl (hb hby d13_20)
      have R70 : ∀ t, Steps p.tables e below (T69.setTop (mkF m 23 #[.val (.long q1), .second, .val (.int (128 : Int32))] [(.ref ca)])) t → Steps p.tables e below (s₁.setTop (mkF m 0 #[.val (.long q1), .second, .unset] [])) t := fun t k => R68 t (st69 _ k)
      have R71 : ∀ t, Steps p.tables e below (T69.setTop (mkF m 29 #[.val (.long q1), .second, .val (.int (128 : Int32))] [(.int (((q1).toInt32) + (128 : Int32))), (.ref ca)])) t → Steps p.tables e below (s₁.setTop (mkF m 0 #[.val (.long q1), .second, .unset] [])) t := by
        intro t k
        refine R70 t ?_
        refine XS.lloadN X69.here hx rfl (hb hby d13_23) rfl ?_
        refine XS.l2i X69.here hx rfl (hb hby d13_24) rfl ?_
        refine XS.sipush X69.here hx rfl (hb hby d13_25) ?_
        refine XS.iadd X69.here hx rfl (hb hby d13_28) rfl ?_
        exact k
      obtain ⟨hj1, hj2⟩ := own_ixL q1 hc hd
      obtain ⟨rr, hrr⟩ := el_1 _ hj2
      have hin : ¬ ((((q1).toInt32) + (128 : Int32)) < 0 ∨ cl.slots.size ≤ ((((q1).toInt32) + (128 : Int32))).toNatClampNeg) := by rw [z_1]; exact fun q => q.elim hj1 (fun u => absurd hj2 (Nat.not_lt.mpr u))
      have R72 : ∀ t, Steps p.tables e below (T69.setTop (mkF m 30 #[.val (.long q1), .second, .val (.int (128 : Int32))] [(.ref rr)])) t → Steps p.tables e below (s₁.setTop (mkF m 0 #[.val (.long q1), .second, .unset] [])) t := by
        intro t k
        refine R71 t ?_
        refine X69.aaload hx (j := (((q1).toInt32) + (128 : Int32))) (v := (.ref rr)) (by rw [e69]; exact A_1.1) (State.isArrayOf_alike hZ.alike A_1.2.1) rfl A_1.2.2 hin hrr (g := (mkF m 29 #[.val (.long q1), .second, .val (.int (128 : Int32))] [(.int (((q1).toInt32) + (128 : Int32))), (.ref ca)])) rfl rfl (hb hby d13_29) _ ?_
        exact k
      obtain ⟨fs, hr, hrun, hended, hW, hsame⟩ := X69.leave (v := some (.ref rr)) (fun h => by rw [Bd.returns] at h; cases h)
      refine ⟨_, _, pre0 _ (R72 _ (retOut X69 hx (t := (.object "java/lang/Long")) Bd.returns rfl (Or.inr (Or.inr (Or.inr (Or.inr ⟨rfl, rfl, rfl⟩)))) (hb hby d13_30) hr)), hrun, hended, _, _, rfl, ?_, ⟨_, rfl⟩, hW, hsame.mono (by decide) (by decide)⟩
      show Q_rm13 Z q1 ca cl h0 n0 _ T69.heap _
      rw [e69]
      exact ⟨_, rfl, N0, Keep.refl _ _⟩
theorem d5_0 : decode prog_14_method_1_code 0 = .ok (.aload_n 0, 1) := by decide +kernel
theorem d5_1 : decode prog_14_method_1_code 1 = .ok (.invokespecial 1, 3) := by decide +kernel
theorem d5_4 : decode prog_14_method_1_code 4 = .ok (.aload_n 1, 1) := by decide +kernel
theorem d5_5 : decode prog_14_method_1_code 5 = .ok (.ifnonnull 7, 3) := by decide +kernel
theorem d5_12 : decode prog_14_method_1_code 12 = .ok (.iconst 0, 1) := by decide +kernel
theorem d5_13 : decode prog_14_method_1_code 13 = .ok (.aload_n 2, 1) := by decide +kernel
theorem d5_14 : decode prog_14_method_1_code 14 = .ok (.ifnonnull 7, 3) := by decide +kernel
theorem d5_17 : decode prog_14_method_1_code 17 = .ok (.iconst 1, 1) := by decide +kernel
theorem d5_18 : decode prog_14_method_1_code 18 = .ok (.goto 4, 3) := by decide +kernel
theorem d5_22 : decode prog_14_method_1_code 22 = .ok (.if_icmp .ne 24, 3) := by decide +kernel
theorem d5_46 : decode prog_14_method_1_code 46 = .ok (.aload_n 0, 1) := by decide +kernel
theorem d5_47 : decode prog_14_method_1_code 47 = .ok (.aload_n 1, 1) := by decide +kernel
theorem d5_48 : decode prog_14_method_1_code 48 = .ok (.putfield 22, 3) := by decide +kernel
theorem d5_51 : decode prog_14_method_1_code 51 = .ok (.aload_n 0, 1) := by decide +kernel
theorem d5_52 : decode prog_14_method_1_code 52 = .ok (.aload_n 2, 1) := by decide +kernel
theorem d5_53 : decode prog_14_method_1_code 53 = .ok (.putfield 28, 3) := by decide +kernel
theorem d5_56 : decode prog_14_method_1_code 56 = .ok (.return_, 1) := by decide +kernel
theorem pn_2 : plainName "com/example/underwright/underwright/eligibility/Fact" = true := by first | (simp [plainName, overriddenIn]; done) | decide +kernel
theorem ef_rm5 (m : MethodId) (x0 : Addr) (x1 : Addr) : entryFrame m #[(.ref x0), (.ref x1), .null] 3 = mkF m 0 #[.val (.ref x0), .val (.ref x1), .val .null] [] := by first | (simp [entryFrame, mkF, argsToLocals, Value.category]; done) | rfl
def Q_rm5 (Z : State) (a1 : Addr) (a2 : Addr) (u1 : Value) (u2 : Value) (h0 : Heap) (n0 : Nat) (v : Option Value) (h : Heap) (L : List Loc) : Prop := v = none ∧ Fr n0 L ∧ Keep h0 h [a1] ∧ Fld Z h a1 "com/example/underwright/underwright/eligibility/Fact" "value" "Ljava/lang/Object;" (.ref a2) ∧ Fld Z h a1 "com/example/underwright/underwright/eligibility/Fact" "unknown" "Lcom/example/underwright/underwright/eligibility/Unknown;" .null
set_option maxRecDepth 65536 in
set_option maxHeartbeats 40000000 in
theorem rm5 (l : Launch) (Z : State) (a0 : Array Value) (hw : ∀ d ∈ tables_1, d.before a0 Z = true) (ws : List Jvm.Cond) (a1 : Addr) (a2 : Addr) (u1 : Value) (u2 : Value) (h0 : Heap) (n0 : Nat) (Z0 : n0 ≤ h0.size) (E_0 : Exa Z h0 a1 "com/example/underwright/underwright/eligibility/Fact") (F_00 : Fld Z h0 a1 "com/example/underwright/underwright/eligibility/Fact" "value" "Ljava/lang/Object;" u1) (F_01 : Fld Z h0 a1 "com/example/underwright/underwright/eligibility/Fact" "unknown" "Lcom/example/underwright/underwright/eligibility/Unknown;" u2) (n_a1 : n0 ≤ a1) :
    MetFree l (⟨"com/example/underwright/underwright/eligibility/Fact", "<init>", "(Ljava/lang/Object;Lcom/example/underwright/underwright/eligibility/Unknown;)V"⟩ : MethodName) (head1 (Jvm.Cond.code (⟨"com/example/underwright/underwright/eligibility/Fact", "<init>", "(Ljava/lang/Object;Lcom/example/underwright/underwright/eligibility/Unknown;)V"⟩ : MethodName) prog_14_method_1_code 3 none :: ws) ({ frames := 2, cells := 0, slots := 0, locals := 24 } : Room)) (fun a U => a = #[(.ref a1), (.ref a2), .null] ∧ Z.Warmed39 U.vm ∧ U.heap = h0) (fun _ _ _ _ _ => True) (fun _ U o U' => ∃ v L, o = .returned v ∧ Q_rm5 Z a1 a2 u1 u2 h0 n0 v U'.heap L ∧ FrameEnd U o U' L ({ frames := 2, cells := 0, slots := 0, locals := 24 } : Room).cells ({ frames := 2, cells := 0, slots := 0, locals := 24 } : Room).slots) := by
  refine MetFree.of_bodySF (plainFor_of_name pn_2) hisR ?_
  intro p e s m args below meth c s₁ Bd hml0 hP hK
  obtain ⟨rfl, hZ, hh⟩ := hP
  have hx := Bd.exec
  have hby := Bd.bytes
  have hml : c.maxLocals = 3 := hml0
  have hown : s.vm.findClass "com/example/underwright/underwright/eligibility/Fact" = some m.cls := findClass_of_methodNamed Bd.named
  have hnm := (name_of_methodNamed Bd.named Bd.method).1
  have X0 : Stand p l e ({ frames := 2, cells := 0, slots := 0, locals := 24 } : Room) s m #[(.ref a1), (.ref a2), .null] below meth c s₁ [] 0 0 := Stand.of_body Bd
  have e0 : s₁.heap = h0 := by rw [← hh, Bd.state]; rfl
  have N0 := Fr.nil n0
  have pre0 : ∀ t, Steps p.tables e below (s₁.setTop (mkF m 0 #[.val (.ref a1), .val (.ref a2), .val .null] [])) t → Steps p.tables e below (s₁.setTop (entryFrame m #[(.ref a1), (.ref a2), .null] 3)) t := fun t k => castTop (ef_rm5 m a1 a2) k
  have R0 : ∀ t, Steps p.tables e below (s₁.setTop (mkF m 0 #[.val (.ref a1), .val (.ref a2), .val .null] [])) t → Steps p.tables e below (s₁.setTop (mkF m 0 #[.val (.ref a1), .val (.ref a2), .val .null] [])) t := fun _ k => k
  have R73 : ∀ t, Steps p.tables e below (s₁.setTop (mkF m 1 #[.val (.ref a1), .val (.ref a2), .val .null] [(.ref a1)])) t → Steps p.tables e below (s₁.setTop (mkF m 0 #[.val (.ref a1), .val (.ref a2), .val .null] [])) t := by
    intro t k
    refine R0 t ?_
    refine XS.aloadN X0.here hx rfl (hb hby d5_0) rfl rfl ?_
    exact k
  obtain ⟨_, _, ⟨T74, L74, k74, n74⟩, -, X74, ⟨Lc74, hQ74, l74, y74, z74⟩, st74⟩ := X0.specialBack hx (y := (⟨"java/lang/Record", "<init>", "()V"⟩ : MethodName)) rfl hown (mvT hZ (hw _ (List.mem_of_getElem? (i := 31) rfl))) (mvT hZ (hw _ (List.mem_of_getElem? (i := 32) rfl))) (mvT hZ (hw _ (List.mem_of_getElem? (i := 35) rfl))) (by decide) (backOf (W := 0) (rm6 l Z a0 hw [] a1  h0 n0 Z0 ) hZ (hw _ (List.mem_of_getElem? (i := 35) rfl)) (hw _ (List.mem_of_getElem? (i := 34) rfl)) (by decide) (by decide)) (g := (mkF m 1 #[.val (.ref a1), .val (.ref a2), .val .null] [(.ref a1)])) rfl (by rw [hml]; rfl) (Steps.refl _) (a := a1) (argsL := []) (rest := []) (lenOf pd_0 rfl) rfl (by show 2 * 0 + _ ≤ _; exact Nat.le_of_eq rfl) (hb hby d5_1) (fun _ _ => ⟨rfl, e0, (by decide : 0 + 0 ≤ _), (by decide : 0 + 0 ≤ _)⟩)
  dsimp only [Pt.U, Pt.locs, Pt.cells, Pt.slots] at X74 l74 y74 z74 st74 hQ74
  subst l74 y74 z74
  obtain ⟨rfl, M74, e74⟩ := hQ74
  have N74 := Fr.app N0 M74
  have R75 : ∀ t, Steps p.tables e below (T74.setTop (mkF m 4 #[.val (.ref a1), .val (.ref a2), .val .null] [])) t → Steps p.tables e below (s₁.setTop (mkF m 0 #[.val (.ref a1), .val (.ref a2), .val .null] [])) t := fun t k => R73 t (st74.trans k)
  have R76 : ∀ t, Steps p.tables e below (T74.setTop (mkF m 5 #[.val (.ref a1), .val (.ref a2), .val .null] [(.ref a2)])) t → Steps p.tables e below (s₁.setTop (mkF m 0 #[.val (.ref a1), .val (.ref a2), .val .null] [])) t := by
    intro t k
    refine R75 t ?_
    refine XS.aloadN X74.here hx rfl (hb hby d5_4) rfl rfl ?_
    exact k
  have R77 : ∀ t, Steps p.tables e below (T74.setTop (mkF m 12 #[.val (.ref a1), .val (.ref a2), .val .null] [])) t → Steps p.tables e below (s₁.setTop (mkF m 0 #[.val (.ref a1), .val (.ref a2), .val .null] [])) t := by
    intro t k
    refine R76 t ?_
    refine XS.ifnonnullYes X74.here hx rfl (pc0 := 5) (pc' := 12) rfl (hb hby d5_5) rfl (by decide) (by decide) ?_
    exact k
  have R78 : ∀ t, Steps p.tables e below (T74.setTop (mkF m 14 #[.val (.ref a1), .val (.ref a2), .val .null] [.null, (.int (0 : Int32))])) t → Steps p.tables e below (s₁.setTop (mkF m 0 #[.val (.ref a1), .val (.ref a2), .val .null] [])) t := by
    intro t k
    refine R77 t ?_
    refine XS.iconst X74.here hx rfl (hb hby d5_12) ?_
    refine XS.aloadN X74.here hx rfl (hb hby d5_13) rfl rfl ?_
    exact k
  have R79 : ∀ t, Steps p.tables e below (T74.setTop (mkF m 17 #[.val (.ref a1), .val (.ref a2), .val .null] [(.int (0 : Int32))])) t → Steps p.tables e below (s₁.setTop (mkF m 0 #[.val (.ref a1), .val (.ref a2), .val .null] [])) t := by
    intro t k
    refine R78 t ?_
    refine XS.ifnonnullNo X74.here hx rfl (hb hby d5_14) rfl ?_
    exact k
  have R80 : ∀ t, Steps p.tables e below (T74.setTop (mkF m 22 #[.val (.ref a1), .val (.ref a2), .val .null] [(.int (1 : Int32)), (.int (0 : Int32))])) t → Steps p.tables e below (s₁.setTop (mkF m 0 #[.val (.ref a1), .val (.ref a2), .val .null] [])) t := by
    intro t k
    refine R79 t ?_
    refine XS.iconst X74.here hx rfl (hb hby d5_17) ?_
    refine XS.goto X74.here hx rfl (pc0 := 18) (pc' := 22) rfl (hb hby d5_18) (by decide) (by decide) ?_
    exact k
  have R81 : ∀ t, Steps p.tables e below (T74.setTop (mkF m 46 #[.val (.ref a1), .val (.ref a2), .val .null] [])) t → Steps p.tables e below (s₁.setTop (mkF m 0 #[.val (.ref a1), .val (.ref a2), .val .null] [])) t := by
    intro t k
    refine R80 t ?_
    refine XS.icmpYes X74.here hx rfl (pc0 := 22) (pc' := 46) rfl (hb hby d5_22) rfl (feq (by decide)).2 (by decide) (by decide) ?_
    exact k
  have R82 : ∀ t, Steps p.tables e below (T74.setTop (mkF m 48 #[.val (.ref a1), .val (.ref a2), .val .null] [(.ref a2), (.ref a1)])) t → Steps p.tables e below (s₁.setTop (mkF m 0 #[.val (.ref a1), .val (.ref a2), .val .null] [])) t := by
    intro t k
    refine R81 t ?_
    refine XS.aloadN X74.here hx rfl (hb hby d5_46) rfl rfl ?_
    refine XS.aloadN X74.here hx rfl (hb hby d5_47) rfl rfl ?_
    exact k
  obtain ⟨T83, h83, X83, e83, W83, st83⟩ := putF X74 hx hZ hown (host := "") (Or.inl (hw _ (List.mem_of_getElem? (i := 37) rfl))) Via.refl e74 F_00 E_0 (Or.inr ⟨(hw _ (List.mem_of_getElem? (i := 38) rfl)), rfl, hnm⟩) (hw _ (List.mem_of_getElem? (i := 27) rfl)) (ty := (.object "java/lang/Object")) (by decide) rfl rfl (g := (mkF m 48 #[.val (.ref a1), .val (.ref a2), .val .null] [(.ref a2), (.ref a1)])) rfl rfl (hb hby d5_48)
  have N83 := Fr.snoc X83 N74 n_a1
  have Z83 : n0 ≤ h83.size := Nat.le_trans Z0 (Keep.of_wr W83).1
  have K83 : Keep h0 h83 [a1] := (Keep.refl h0 [a1]).wr W83 (Or.inl (List.mem_of_getElem? (i := 0) rfl))
  have E_84 : Exa Z h83 a1 "com/example/underwright/underwright/eligibility/Fact" := E_0.wr W83
  have F_85 : Fld Z h83 a1 "com/example/underwright/underwright/eligibility/Fact" "value" "Ljava/lang/Object;" (.ref a2) := F_00.same W83
  have F_86 : Fld Z h83 a1 "com/example/underwright/underwright/eligibility/Fact" "unknown" "Lcom/example/underwright/underwright/eligibility/Unknown;" u2 := F_01.other W83 (Or.inr (slot_ne (Or.inr (hw _ (List.mem_of_getElem? (i := 40) rfl))) (Or.inr (hw _ (List.mem_of_getElem? (i := 38) rfl))) (by decide) (t := (.object "com/example/underwright/underwright/eligibility/Unknown")) (t' := (.object "java/lang/Object")) (by decide) (by decide)))
  have R87 : ∀ t, Steps p.tables e below (T83.setTop (mkF m 51 #[.val (.ref a1), .val (.ref a2), .val .null] [])) t → Steps p.tables e below (s₁.setTop (mkF m 0 #[.val (.ref a1), .val (.ref a2), .val .null] [])) t := fun t k => R82 t (st83 _ k)
  have R88 : ∀ t, Steps p.tables e below (T83.setTop (mkF m 53 #[.val (.ref a1), .val (.ref a2), .val .null] [.null, (.ref a1)])) t → Steps p.tables e below (s₁.setTop (mkF m 0 #[.val (.ref a1), .val (.ref a2), .val .null] [])) t := by
    intro t k
    refine R87 t ?_
    refine XS.aloadN X83.here hx rfl (hb hby d5_51) rfl rfl ?_
    refine XS.aloadN X83.here hx rfl (hb hby d5_52) rfl rfl ?_
    exact k
  obtain ⟨T89, h89, X89, e89, W89, st89⟩ := putF X83 hx hZ hown (host := "") (Or.inl (hw _ (List.mem_of_getElem? (i := 39) rfl))) Via.refl e83 F_86 E_84 (Or.inr ⟨(hw _ (List.mem_of_getElem? (i := 40) rfl)), rfl, hnm⟩) (hw _ (List.mem_of_getElem? (i := 27) rfl)) (ty := (.object "com/example/underwright/underwright/eligibility/Unknown")) (by decide) rfl rfl (g := (mkF m 53 #[.val (.ref a1), .val (.ref a2), .val .null] [.null, (.ref a1)])) rfl rfl (hb hby d5_53)
  have N89 := Fr.snoc X89 N83 n_a1
  have Z89 : n0 ≤ h89.size := Nat.le_trans Z83 (Keep.of_wr W89).1
  have K89 : Keep h0 h89 [a1] := K83.wr W89 (Or.inl (List.mem_of_getElem? (i := 0) rfl))
  have E_90 : Exa Z h89 a1 "com/example/underwright/underwright/eligibility/Fact" := E_84.wr W89
  have F_91 : Fld Z h89 a1 "com/example/underwright/underwright/eligibility/Fact" "value" "Ljava/lang/Object;" (.ref a2) := F_85.other W89 (Or.inr (slot_ne (Or.inr (hw _ (List.mem_of_getElem? (i := 38) rfl))) (Or.inr (hw _ (List.mem_of_getElem? (i := 40) rfl))) (by decide) (t := (.object "java/lang/Object")) (t' := (.object "com/example/underwright/underwright/eligibility/Unknown")) (by decide) (by decide)))
  have F_92 : Fld Z h89 a1 "com/example/underwright/underwright/eligibility/Fact" "unknown" "Lcom/example/underwright/underwright/eligibility/Unknown;" .null := F_86.same W89
  have R93 : ∀ t, Steps p.tables e below (T89.setTop (mkF m 56 #[.val (.ref a1), .val (.ref a2), .val .null] [])) t → Steps p.tables e below (s₁.setTop (mkF m 0 #[.val (.ref a1), .val (.ref a2), .val .null] [])) t := fun t k => R88 t (st89 _ k)
  obtain ⟨fs, hr, hrun, hended, hW, hsame⟩ := X89.leave (v := none) (fun _ => rfl)
  refine ⟨_, _, pre0 _ (R93 _ (X89.returnOut hx Bd.returns (hb hby d5_56) hr)), hrun, hended, _, _, rfl, ?_, ⟨_, rfl⟩, hW, hsame.mono (by decide) (by decide)⟩
  show Q_rm5 Z a1 a2 u1 u2 h0 n0 _ T89.heap _
  rw [e89]
  exact ⟨rfl, N89, K89, F_91, F_92⟩
theorem d4_0 : decode prog_14_method_2_code 0 = .ok (.new 23, 3) := by decide +kernel
theorem d4_3 : decode prog_14_method_2_code 3 = .ok (.dup, 1) := by decide +kernel
theorem d4_4 : decode prog_14_method_2_code 4 = .ok (.aload_n 0, 1) := by decide +kernel
theorem d4_5 : decode prog_14_method_2_code 5 = .ok (.aconst_null, 1) := by decide +kernel
theorem d4_6 : decode prog_14_method_2_code 6 = .ok (.invokespecial 32, 3) := by decide +kernel
theorem d4_9 : decode prog_14_method_2_code 9 = .ok (.areturn, 1) := by decide +kernel
theorem pd_3 : parseMethodDescriptor "(Ljava/lang/Object;Lcom/example/underwright/underwright/eligibility/Unknown;)V" = some ⟨[(.object "java/lang/Object"), (.object "com/example/underwright/underwright/eligibility/Unknown")], none⟩ := by decide +kernel
theorem ef_rm4 (m : MethodId) (x0 : Addr) : entryFrame m #[(.ref x0)] 1 = mkF m 0 #[.val (.ref x0)] [] := by first | (simp [entryFrame, mkF, argsToLocals, Value.category]; done) | rfl
def Q_rm4 (Z : State) (a1 : Addr)  (h0 : Heap) (n0 : Nat) (v : Option Value) (h : Heap) (L : List Loc) : Prop := ∃ b : Addr, v = some (.ref b) ∧ Fr n0 L ∧ Keep h0 h [] ∧ h0.size ≤ b ∧ Exa Z h b "com/example/underwright/underwright/eligibility/Fact" ∧ Fld Z h b "com/example/underwright/underwright/eligibility/Fact" "value" "Ljava/lang/Object;" (.ref a1) ∧ Fld Z h b "com/example/underwright/underwright/eligibility/Fact" "unknown" "Lcom/example/underwright/underwright/eligibility/Unknown;" .null
set_option maxRecDepth 65536 in
set_option maxHeartbeats 40000000 in
theorem rm4 (l : Launch) (Z : State) (a0 : Array Value) (hw : ∀ d ∈ tables_1, d.before a0 Z = true) (ws : List Jvm.Cond) (a1 : Addr)  (h0 : Heap) (n0 : Nat) (Z0 : n0 ≤ h0.size)  :
    MetFree l (⟨"com/example/underwright/underwright/eligibility/Fact", "of", "(Ljava/lang/Object;)Lcom/example/underwright/underwright/eligibility/Fact;"⟩ : MethodName) (head1 (Jvm.Cond.code (⟨"com/example/underwright/underwright/eligibility/Fact", "of", "(Ljava/lang/Object;)Lcom/example/underwright/underwright/eligibility/Fact;"⟩ : MethodName) prog_14_method_2_code 1 (some (.object "com/example/underwright/underwright/eligibility/Fact")) :: ws) ({ frames := 3, cells := 1, slots := 2, locals := 39 } : Room)) (fun a U => a = #[(.ref a1)] ∧ Z.Warmed39 U.vm ∧ U.heap = h0) (fun _ _ _ _ _ => True) (fun _ U o U' => ∃ v L, o = .returned v ∧ Q_rm4 Z a1  h0 n0 v U'.heap L ∧ FrameEnd U o U' L ({ frames := 3, cells := 1, slots := 2, locals := 39 } : Room).cells ({ frames := 3, cells := 1, slots := 2, locals := 39 } : Room).slots) := by
  refine MetFree.of_bodySF (plainFor_of_name pn_2) hisR ?_
  intro p e s m args below meth c s₁ Bd hml0 hP hK
  obtain ⟨rfl, hZ, hh⟩ := hP
  have hx := Bd.exec
  have hby := Bd.bytes
  have hml : c.maxLocals = 1 := hml0
  have hown : s.vm.findClass "com/example/underwright/underwright/eligibility/Fact" = some m.cls := findClass_of_methodNamed Bd.named
  have hnm := (name_of_methodNamed Bd.named Bd.method).1
  have X0 : Stand p l e ({ frames := 3, cells := 1, slots := 2, locals := 39 } : Room) s m #[(.ref a1)] below meth c s₁ [] 0 0 := Stand.of_body Bd
  have e0 : s₁.heap = h0 := by rw [← hh, Bd.state]; rfl
  have N0 := Fr.nil n0
  have pre0 : ∀ t, Steps p.tables e below (s₁.setTop (mkF m 0 #[.val (.ref a1)] [])) t → Steps p.tables e below (s₁.setTop (entryFrame m #[(.ref a1)] 1)) t := fun t k => castTop (ef_rm4 m a1) k
  have R0 : ∀ t, Steps p.tables e below (s₁.setTop (mkF m 0 #[.val (.ref a1)] [])) t → Steps p.tables e below (s₁.setTop (mkF m 0 #[.val (.ref a1)] [])) t := fun _ k => k
  obtain ⟨T94, h94, X94, e94, x94, A94, D94, -, st94⟩ := newO X0 hx hZ hown (hw _ (List.mem_of_getElem? (i := 26) rfl)) (hw _ (List.mem_of_getElem? (i := 27) rfl)) (hw _ (List.mem_of_getElem? (i := 24) rfl)) e0 (g := (mkF m 0 #[.val (.ref a1)] [])) rfl (hb hby d4_0) (by decide) (by decide)
  obtain ⟨b1, g_b1⟩ : ∃ z, z = h0.size := ⟨_, rfl⟩
  rw [← g_b1] at A94 D94 st94
  have n_b1 : n0 ≤ b1 := Nat.le_trans Z0 (Nat.le_of_eq g_b1.symm)
  have z_b1 : h0.size ≤ b1 := Nat.le_trans (Keep.refl h0 []).1 (Nat.le_of_eq g_b1.symm)
  have Z94 : n0 ≤ h94.size := Nat.le_trans Z0 x94.1
  have K94 : Keep h0 h94 [] := (Keep.refl h0 []).ext x94
  have F_95 : Fld Z h94 b1 "com/example/underwright/underwright/eligibility/Fact" "value" "Ljava/lang/Object;" .null := D94 (Or.inr (hw _ (List.mem_of_getElem? (i := 38) rfl))) (ty := (.object "java/lang/Object")) (by decide)
  have F_96 : Fld Z h94 b1 "com/example/underwright/underwright/eligibility/Fact" "unknown" "Lcom/example/underwright/underwright/eligibility/Unknown;" .null := D94 (Or.inr (hw _ (List.mem_of_getElem? (i := 40) rfl))) (ty := (.object "com/example/underwright/underwright/eligibility/Unknown")) (by decide)
  have R97 : ∀ t, Steps p.tables e below (T94.setTop (mkF m 3 #[.val (.ref a1)] [(.ref b1)])) t → Steps p.tables e below (s₁.setTop (mkF m 0 #[.val (.ref a1)] [])) t := fun t k => R0 t (st94 _ k)
  have R98 : ∀ t, Steps p.tables e below (T94.setTop (mkF m 6 #[.val (.ref a1)] [.null, (.ref a1), (.ref b1), (.ref b1)])) t → Steps p.tables e below (s₁.setTop (mkF m 0 #[.val (.ref a1)] [])) t := by
    intro t k
    refine R97 t ?_
    refine XS.dup X94.here hx rfl (hb hby d4_3) rfl rfl ?_
    refine XS.aloadN X94.here hx rfl (hb hby d4_4) rfl rfl ?_
    refine XS.aconstNull X94.here hx rfl (hb hby d4_5) ?_
    exact k
  obtain ⟨_, _, ⟨T99, L99, k99, n99⟩, -, X99, ⟨Lc99, hQ99, l99, y99, z99⟩, st99⟩ := X94.specialBack hx (y := (⟨"com/example/underwright/underwright/eligibility/Fact", "<init>", "(Ljava/lang/Object;Lcom/example/underwright/underwright/eligibility/Unknown;)V"⟩ : MethodName)) rfl hown (mvT hZ (hw _ (List.mem_of_getElem? (i := 28) rfl))) (mvT hZ (hw _ (List.mem_of_getElem? (i := 29) rfl))) (mvT hZ (hw _ (List.mem_of_getElem? (i := 30) rfl))) (by decide) (backOf (W := 1) (rm5 l Z a0 hw [] b1 a1 .null .null h94 n0 Z94 A94 F_95 F_96 n_b1) hZ (hw _ (List.mem_of_getElem? (i := 30) rfl)) (hw _ (List.mem_of_getElem? (i := 24) rfl)) (by decide) (by decide)) (g := (mkF m 6 #[.val (.ref a1)] [.null, (.ref a1), (.ref b1), (.ref b1)])) rfl (by rw [hml]; rfl) (Steps.refl _) (a := b1) (argsL := [(.ref a1), .null]) (rest := [(.ref b1)]) (lenOf pd_3 rfl) rfl (by show 2 * 0 + _ ≤ _; exact Nat.le_of_eq rfl) (hb hby d4_6) (fun _ _ => ⟨rfl, e94, (by decide : 1 + 0 ≤ _), (by decide : 2 + 0 ≤ _)⟩)
  dsimp only [Pt.U, Pt.locs, Pt.cells, Pt.slots] at X99 l99 y99 z99 st99 hQ99
  subst l99 y99 z99
  obtain ⟨rfl, M99, J99, Fa99, Fb99⟩ := hQ99
  have Z99 : n0 ≤ T99.heap.size := Nat.le_trans Z94 J99.1
  have K99 : Keep h0 T99.heap [] := K94.trans J99 (allS (Or.inr z_b1) all0)
  have E_100 : Exa Z T99.heap b1 "com/example/underwright/underwright/eligibility/Fact" := A94.keep J99
  have N99 := Fr.app N0 M99
  have R101 : ∀ t, Steps p.tables e below (T99.setTop (mkF m 9 #[.val (.ref a1)] [(.ref b1)])) t → Steps p.tables e below (s₁.setTop (mkF m 0 #[.val (.ref a1)] [])) t := fun t k => R98 t (st99.trans k)
  obtain ⟨fs, hr, hrun, hended, hW, hsame⟩ := X99.leave (v := some (.ref b1)) (fun h => by rw [Bd.returns] at h; cases h)
  refine ⟨_, _, pre0 _ (R101 _ (retOut X99 hx (t := (.object "com/example/underwright/underwright/eligibility/Fact")) Bd.returns rfl (Or.inr (Or.inr (Or.inr (Or.inr ⟨rfl, rfl, rfl⟩)))) (hb hby d4_9) hr)), hrun, hended, _, _, rfl, ?_, ⟨_, rfl⟩, hW, hsame.mono (by decide) (by decide)⟩
  show Q_rm4 Z a1  h0 n0 _ T99.heap _
  exact ⟨_, rfl, N99, K99, z_b1, E_100, Fa99, Fb99⟩
theorem d7_0 : decode prog_14_method_11_code 0 = .ok (.aload_n 0, 1) := by decide +kernel
theorem d7_1 : decode prog_14_method_11_code 1 = .ok (.getfield 22, 3) := by decide +kernel
theorem d7_4 : decode prog_14_method_11_code 4 = .ok (.areturn, 1) := by decide +kernel
theorem ef_rm7 (m : MethodId) (x0 : Addr) : entryFrame m #[(.ref x0)] 1 = mkF m 0 #[.val (.ref x0)] [] := by first | (simp [entryFrame, mkF, argsToLocals, Value.category]; done) | rfl
def Q_rm7 (Z : State) (a1 : Addr) (w1 : Addr) (h0 : Heap) (n0 : Nat) (v : Option Value) (h : Heap) (L : List Loc) : Prop := v = some (.ref w1) ∧ Fr n0 L ∧ h = h0
set_option maxRecDepth 65536 in
set_option maxHeartbeats 40000000 in
theorem rm7 (l : Launch) (Z : State) (a0 : Array Value) (hw : ∀ d ∈ tables_1, d.before a0 Z = true) (ws : List Jvm.Cond) (a1 : Addr) (w1 : Addr) (h0 : Heap) (n0 : Nat) (Z0 : n0 ≤ h0.size) (F_01 : Fld Z h0 a1 "com/example/underwright/underwright/eligibility/Fact" "value" "Ljava/lang/Object;" (.ref w1)) :
    MetFree l (⟨"com/example/underwright/underwright/eligibility/Fact", "value", "()Ljava/lang/Object;"⟩ : MethodName) (head1 (Jvm.Cond.code (⟨"com/example/underwright/underwright/eligibility/Fact", "value", "()Ljava/lang/Object;"⟩ : MethodName) prog_14_method_11_code 1 (some (.object "java/lang/Object")) :: ws) ({ frames := 0, cells := 0, slots := 0, locals := 0 } : Room)) (fun a U => a = #[(.ref a1)] ∧ Z.Warmed39 U.vm ∧ U.heap = h0) (fun _ _ _ _ _ => True) (fun _ U o U' => ∃ v L, o = .returned v ∧ Q_rm7 Z a1 w1 h0 n0 v U'.heap L ∧ FrameEnd U o U' L ({ frames := 0, cells := 0, slots := 0, locals := 0 } : Room).cells ({ frames := 0, cells := 0, slots := 0, locals := 0 } : Room).slots) := by
  refine MetFree.of_bodySF (plainFor_of_name pn_2) hisR ?_
  intro p e s m args below meth c s₁ Bd hml0 hP hK
  obtain ⟨rfl, hZ, hh⟩ := hP
  have hx := Bd.exec
  have hby := Bd.bytes
  have hml : c.maxLocals = 1 := hml0
  have hown : s.vm.findClass "com/example/underwright/underwright/eligibility/Fact" = some m.cls := findClass_of_methodNamed Bd.named
  have hnm := (name_of_methodNamed Bd.named Bd.method).1
  have X0 : Stand p l e ({ frames := 0, cells := 0, slots := 0, locals := 0 } : Room) s m #[(.ref a1)] below meth c s₁ [] 0 0 := Stand.of_body Bd
  have e0 : s₁.heap = h0 := by rw [← hh, Bd.state]; rfl
  have N0 := Fr.nil n0
  have pre0 : ∀ t, Steps p.tables e below (s₁.setTop (mkF m 0 #[.val (.ref a1)] [])) t → Steps p.tables e below (s₁.setTop (entryFrame m #[(.ref a1)] 1)) t := fun t k => castTop (ef_rm7 m a1) k
  have R0 : ∀ t, Steps p.tables e below (s₁.setTop (mkF m 0 #[.val (.ref a1)] [])) t → Steps p.tables e below (s₁.setTop (mkF m 0 #[.val (.ref a1)] [])) t := fun _ k => k
  have R102 : ∀ t, Steps p.tables e below (s₁.setTop (mkF m 1 #[.val (.ref a1)] [(.ref a1)])) t → Steps p.tables e below (s₁.setTop (mkF m 0 #[.val (.ref a1)] [])) t := by
    intro t k
    refine R0 t ?_
    refine XS.aloadN X0.here hx rfl (hb hby d7_0) rfl rfl ?_
    exact k
  obtain ⟨T103, X103, e103, st103⟩ := getF X0 hx hZ hown (host := "") (Or.inl (hw _ (List.mem_of_getElem? (i := 37) rfl))) Via.refl e0 F_01 (g := (mkF m 1 #[.val (.ref a1)] [(.ref a1)])) rfl rfl (hb hby d7_1)
  have R104 : ∀ t, Steps p.tables e below (T103.setTop (mkF m 4 #[.val (.ref a1)] [(.ref w1)])) t → Steps p.tables e below (s₁.setTop (mkF m 0 #[.val (.ref a1)] [])) t := fun t k => R102 t (st103 _ k)
  obtain ⟨fs, hr, hrun, hended, hW, hsame⟩ := X103.leave (v := some (.ref w1)) (fun h => by rw [Bd.returns] at h; cases h)
  refine ⟨_, _, pre0 _ (R104 _ (retOut X103 hx (t := (.object "java/lang/Object")) Bd.returns rfl (Or.inr (Or.inr (Or.inr (Or.inr ⟨rfl, rfl, rfl⟩)))) (hb hby d7_4) hr)), hrun, hended, _, _, rfl, ?_, ⟨_, rfl⟩, hW, hsame.mono (by decide) (by decide)⟩
  show Q_rm7 Z a1 w1 h0 n0 _ T103.heap _
  rw [e103]
  exact ⟨rfl, N0, rfl⟩
theorem d8_0 : decode prog_14_method_12_code 0 = .ok (.aload_n 0, 1) := by decide +kernel
theorem d8_1 : decode prog_14_method_12_code 1 = .ok (.getfield 28, 3) := by decide +kernel
theorem d8_4 : decode prog_14_method_12_code 4 = .ok (.areturn, 1) := by decide +kernel
theorem ef_rm8 (m : MethodId) (x0 : Addr) : entryFrame m #[(.ref x0)] 1 = mkF m 0 #[.val (.ref x0)] [] := by first | (simp [entryFrame, mkF, argsToLocals, Value.category]; done) | rfl
def Q_rm8 (Z : State) (a1 : Addr)  (h0 : Heap) (n0 : Nat) (v : Option Value) (h : Heap) (L : List Loc) : Prop := v = some .null ∧ Fr n0 L ∧ h = h0
set_option maxRecDepth 65536 in
set_option maxHeartbeats 40000000 in
theorem rm8 (l : Launch) (Z : State) (a0 : Array Value) (hw : ∀ d ∈ tables_1, d.before a0 Z = true) (ws : List Jvm.Cond) (a1 : Addr)  (h0 : Heap) (n0 : Nat) (Z0 : n0 ≤ h0.size) (F_01 : Fld Z h0 a1 "com/example/underwright/underwright/eligibility/Fact" "unknown" "Lcom/example/underwright/underwright/eligibility/Unknown;" .null) :
    MetFree l (⟨"com/example/underwright/underwright/eligibility/Fact", "unknown", "()Lcom/example/underwright/underwright/eligibility/Unknown;"⟩ : MethodName) (head1 (Jvm.Cond.code (⟨"com/example/underwright/underwright/eligibility/Fact", "unknown", "()Lcom/example/underwright/underwright/eligibility/Unknown;"⟩ : MethodName) prog_14_method_12_code 1 (some (.object "com/example/underwright/underwright/eligibility/Unknown")) :: ws) ({ frames := 0, cells := 0, slots := 0, locals := 0 } : Room)) (fun a U => a = #[(.ref a1)] ∧ Z.Warmed39 U.vm ∧ U.heap = h0) (fun _ _ _ _ _ => True) (fun _ U o U' => ∃ v L, o = .returned v ∧ Q_rm8 Z a1  h0 n0 v U'.heap L ∧ FrameEnd U o U' L ({ frames := 0, cells := 0, slots := 0, locals := 0 } : Room).cells ({ frames := 0, cells := 0, slots := 0, locals := 0 } : Room).slots) := by
  refine MetFree.of_bodySF (plainFor_of_name pn_2) hisR ?_
  intro p e s m args below meth c s₁ Bd hml0 hP hK
  obtain ⟨rfl, hZ, hh⟩ := hP
  have hx := Bd.exec
  have hby := Bd.bytes
  have hml : c.maxLocals = 1 := hml0
  have hown : s.vm.findClass "com/example/underwright/underwright/eligibility/Fact" = some m.cls := findClass_of_methodNamed Bd.named
  have hnm := (name_of_methodNamed Bd.named Bd.method).1
  have X0 : Stand p l e ({ frames := 0, cells := 0, slots := 0, locals := 0 } : Room) s m #[(.ref a1)] below meth c s₁ [] 0 0 := Stand.of_body Bd
  have e0 : s₁.heap = h0 := by rw [← hh, Bd.state]; rfl
  have N0 := Fr.nil n0
  have pre0 : ∀ t, Steps p.tables e below (s₁.setTop (mkF m 0 #[.val (.ref a1)] [])) t → Steps p.tables e below (s₁.setTop (entryFrame m #[(.ref a1)] 1)) t := fun t k => castTop (ef_rm8 m a1) k
  have R0 : ∀ t, Steps p.tables e below (s₁.setTop (mkF m 0 #[.val (.ref a1)] [])) t → Steps p.tables e below (s₁.setTop (mkF m 0 #[.val (.ref a1)] [])) t := fun _ k => k
  have R105 : ∀ t, Steps p.tables e below (s₁.setTop (mkF m 1 #[.val (.ref a1)] [(.ref a1)])) t → Steps p.tables e below (s₁.setTop (mkF m 0 #[.val (.ref a1)] [])) t := by
    intro t k
    refine R0 t ?_
    refine XS.aloadN X0.here hx rfl (hb hby d8_0) rfl rfl ?_
    exact k
  obtain ⟨T106, X106, e106, st106⟩ := getF X0 hx hZ hown (host := "") (Or.inl (hw _ (List.mem_of_getElem? (i := 39) rfl))) Via.refl e0 F_01 (g := (mkF m 1 #[.val (.ref a1)] [(.ref a1)])) rfl rfl (hb hby d8_1)
  have R107 : ∀ t, Steps p.tables e below (T106.setTop (mkF m 4 #[.val (.ref a1)] [.null])) t → Steps p.tables e below (s₁.setTop (mkF m 0 #[.val (.ref a1)] [])) t := fun t k => R105 t (st106 _ k)
  obtain ⟨fs, hr, hrun, hended, hW, hsame⟩ := X106.leave (v := some .null) (fun h => by rw [Bd.returns] at h; cases h)
  refine ⟨_, _, pre0 _ (R107 _ (retOut X106 hx (t := (.object "com/example/underwright/underwright/eligibility/Unknown")) Bd.returns rfl (Or.inr (Or.inr (Or.inr (Or.inr ⟨rfl, rfl, rfl⟩)))) (hb hby d8_4) hr)), hrun, hended, _, _, rfl, ?_, ⟨_, rfl⟩, hW, hsame.mono (by decide) (by decide)⟩
  show Q_rm8 Z a1  h0 n0 _ T106.heap _
  rw [e106]
  exact ⟨rfl, N0, rfl⟩
theorem d9_0 : decode prog_14_method_7_code 0 = .ok (.aload_n 0, 1) := by decide +kernel
theorem d9_1 : decode prog_14_method_7_code 1 = .ok (.getfield 28, 3) := by decide +kernel
theorem d9_4 : decode prog_14_method_7_code 4 = .ok (.ifnonnull 7, 3) := by decide +kernel
theorem d9_7 : decode prog_14_method_7_code 7 = .ok (.iconst 1, 1) := by decide +kernel
theorem d9_8 : decode prog_14_method_7_code 8 = .ok (.goto 4, 3) := by decide +kernel
theorem d9_12 : decode prog_14_method_7_code 12 = .ok (.ireturn, 1) := by decide +kernel
theorem ef_rm9 (m : MethodId) (x0 : Addr) : entryFrame m #[(.ref x0)] 1 = mkF m 0 #[.val (.ref x0)] [] := by first | (simp [entryFrame, mkF, argsToLocals, Value.category]; done) | rfl
def Q_rm9 (Z : State) (a1 : Addr)  (h0 : Heap) (n0 : Nat) (v : Option Value) (h : Heap) (L : List Loc) : Prop := v = some (.int (1 : Int32)) ∧ Fr n0 L ∧ h = h0
set_option maxRecDepth 65536 in
set_option maxHeartbeats 40000000 in
theorem rm9 (l : Launch) (Z : State) (a0 : Array Value) (hw : ∀ d ∈ tables_1, d.before a0 Z = true) (ws : List Jvm.Cond) (a1 : Addr)  (h0 : Heap) (n0 : Nat) (Z0 : n0 ≤ h0.size) (F_01 : Fld Z h0 a1 "com/example/underwright/underwright/eligibility/Fact" "unknown" "Lcom/example/underwright/underwright/eligibility/Unknown;" .null) :
    MetFree l (⟨"com/example/underwright/underwright/eligibility/Fact", "isKnown", "()Z"⟩ : MethodName) (head1 (Jvm.Cond.code (⟨"com/example/underwright/underwright/eligibility/Fact", "isKnown", "()Z"⟩ : MethodName) prog_14_method_7_code 1 (some .boolean) :: ws) ({ frames := 0, cells := 0, slots := 0, locals := 0 } : Room)) (fun a U => a = #[(.ref a1)] ∧ Z.Warmed39 U.vm ∧ U.heap = h0) (fun _ _ _ _ _ => True) (fun _ U o U' => ∃ v L, o = .returned v ∧ Q_rm9 Z a1  h0 n0 v U'.heap L ∧ FrameEnd U o U' L ({ frames := 0, cells := 0, slots := 0, locals := 0 } : Room).cells ({ frames := 0, cells := 0, slots := 0, locals := 0 } : Room).slots) := by
  refine MetFree.of_bodySF (plainFor_of_name pn_2) hisR ?_
  intro p e s m args below meth c s₁ Bd hml0 hP hK
  obtain ⟨rfl, hZ, hh⟩ := hP
  have hx := Bd.exec
  have hby := Bd.bytes
  have hml : c.maxLocals = 1 := hml0
  have hown : s.vm.findClass "com/example/underwright/underwright/eligibility/Fact" = some m.cls := findClass_of_methodNamed Bd.named
  have hnm := (name_of_methodNamed Bd.named Bd.method).1
  have X0 : Stand p l e ({ frames := 0, cells := 0, slots := 0, locals := 0 } : Room) s m #[(.ref a1)] below meth c s₁ [] 0 0 := Stand.of_body Bd
  have e0 : s₁.heap = h0 := by rw [← hh, Bd.state]; rfl
  have N0 := Fr.nil n0
  have pre0 : ∀ t, Steps p.tables e below (s₁.setTop (mkF m 0 #[.val (.ref a1)] [])) t → Steps p.tables e below (s₁.setTop (entryFrame m #[(.ref a1)] 1)) t := fun t k => castTop (ef_rm9 m a1) k
  have R0 : ∀ t, Steps p.tables e below (s₁.setTop (mkF m 0 #[.val (.ref a1)] [])) t → Steps p.tables e below (s₁.setTop (mkF m 0 #[.val (.ref a1)] [])) t := fun _ k => k
  have R108 : ∀ t, Steps p.tables e below (s₁.setTop (mkF m 1 #[.val (.ref a1)] [(.ref a1)])) t → Steps p.tables e below (s₁.setTop (mkF m 0 #[.val (.ref a1)] [])) t := by
    intro t k
    refine R0 t ?_
    refine XS.aloadN X0.here hx rfl (hb hby d9_0) rfl rfl ?_
    exact k
  obtain ⟨T109, X109, e109, st109⟩ := getF X0 hx hZ hown (host := "") (Or.inl (hw _ (List.mem_of_getElem? (i := 39) rfl))) Via.refl e0 F_01 (g := (mkF m 1 #[.val (.ref a1)] [(.ref a1)])) rfl rfl (hb hby d9_1)
  have R110 : ∀ t, Steps p.tables e below (T109.setTop (mkF m 4 #[.val (.ref a1)] [.null])) t → Steps p.tables e below (s₁.setTop (mkF m 0 #[.val (.ref a1)] [])) t := fun t k => R108 t (st109 _ k)
  have R111 : ∀ t, Steps p.tables e below (T109.setTop (mkF m 7 #[.val (.ref a1)] [])) t → Steps p.tables e below (s₁.setTop (mkF m 0 #[.val (.ref a1)] [])) t := by
    intro t k
    refine R110 t ?_
    refine XS.ifnonnullNo X109.here hx rfl (hb hby d9_4) rfl ?_
    exact k
  have R112 : ∀ t, Steps p.tables e below (T109.setTop (mkF m 12 #[.val (.ref a1)] [(.int (1 : Int32))])) t → Steps p.tables e below (s₁.setTop (mkF m 0 #[.val (.ref a1)] [])) t := by
    intro t k
    refine R111 t ?_
    refine XS.iconst X109.here hx rfl (hb hby d9_7) ?_
    refine XS.goto X109.here hx rfl (pc0 := 8) (pc' := 12) rfl (hb hby d9_8) (by decide) (by decide) ?_
    exact k
  obtain ⟨fs, hr, hrun, hended, hW, hsame⟩ := X109.leave (v := some (.int (1 : Int32))) (fun h => by rw [Bd.returns] at h; cases h)
  refine ⟨_, _, pre0 _ (R112 _ (retN X109 hx (t := .boolean) Bd.returns (by simp) (hb hby d9_12) hr)), hrun, hended, _, _, rfl, ?_, ⟨_, rfl⟩, hW, hsame.mono (by decide) (by decide)⟩
  show Q_rm9 Z a1  h0 n0 _ T109.heap _
  rw [e109]
  exact ⟨rfl, N0, rfl⟩
theorem d11_0 : decode jdk_52_method_21_code 0 = .ok (.iconst 0, 1) := by decide +kernel
theorem d11_1 : decode jdk_52_method_21_code 1 = .ok (.istore 5, 2) := by decide +kernel
theorem d11_3 : decode jdk_52_method_21_code 3 = .ok (.iload 5, 2) := by decide +kernel
theorem d11_5 : decode jdk_52_method_21_code 5 = .ok (.iload 4, 2) := by decide +kernel
theorem d11_7 : decode jdk_52_method_21_code 7 = .ok (.if_icmp .ge 37, 3) := by decide +kernel
theorem d11_10 : decode jdk_52_method_21_code 10 = .ok (.aload_n 0, 1) := by decide +kernel
theorem d11_11 : decode jdk_52_method_21_code 11 = .ok (.iload_n 1, 1) := by decide +kernel
theorem d11_12 : decode jdk_52_method_21_code 12 = .ok (.caload, 1) := by decide +kernel
theorem d11_13 : decode jdk_52_method_21_code 13 = .ok (.istore 6, 2) := by decide +kernel
theorem d11_15 : decode jdk_52_method_21_code 15 = .ok (.iload 6, 2) := by decide +kernel
theorem d11_17 : decode jdk_52_method_21_code 17 = .ok (.sipush 255, 3) := by decide +kernel
theorem d11_20 : decode jdk_52_method_21_code 20 = .ok (.if_icmp .le 6, 3) := by decide +kernel
theorem d11_26 : decode jdk_52_method_21_code 26 = .ok (.aload_n 2, 1) := by decide +kernel
theorem d11_27 : decode jdk_52_method_21_code 27 = .ok (.iload_n 3, 1) := by decide +kernel
theorem d11_28 : decode jdk_52_method_21_code 28 = .ok (.iload 6, 2) := by decide +kernel
theorem d11_30 : decode jdk_52_method_21_code 30 = .ok (.i2b, 1) := by decide +kernel
theorem d11_31 : decode jdk_52_method_21_code 31 = .ok (.bastore, 1) := by decide +kernel
theorem d11_32 : decode jdk_52_method_21_code 32 = .ok (.iinc 1 1, 3) := by decide +kernel
theorem d11_35 : decode jdk_52_method_21_code 35 = .ok (.iinc 3 1, 3) := by decide +kernel
theorem d11_38 : decode jdk_52_method_21_code 38 = .ok (.iinc 5 1, 3) := by decide +kernel
theorem d11_41 : decode jdk_52_method_21_code 41 = .ok (.goto (-38), 3) := by decide +kernel
theorem d11_44 : decode jdk_52_method_21_code 44 = .ok (.iload 4, 2) := by decide +kernel
theorem d11_46 : decode jdk_52_method_21_code 46 = .ok (.ireturn, 1) := by decide +kernel
theorem pf_rmc5 : plainFor (⟨"java/lang/StringUTF16", "compress", "([CI[BII)I"⟩ : MethodName) = true := by decide +kernel
theorem ef_rmc5 (m : MethodId) (x0 : Addr) (x1 : Int32) (x2 : Addr) (x3 : Int32) (x4 : Int32) : entryFrame m #[(.ref x0), (.int x1), (.ref x2), (.int x3), (.int x4)] 7 = mkF m 0 #[.val (.ref x0), .val (.int x1), .val (.ref x2), .val (.int x3), .val (.int x4), .unset, .unset] [] := by first | (simp [entryFrame, mkF, argsToLocals, Value.category]; done) | rfl
def Q_rmc5 (Z : State) (a1 : Addr) (a3 : Addr) (k1 : ClassId) (k2 : ClassId) (c0 c1 : Int32) (h0 : Heap) (n0 : Nat) (v : Option Value) (h : Heap) (L : List Loc) : Prop := v = some (.int (2 : Int32)) ∧ Fr n0 L ∧ Keep h0 h [a3] ∧ Arv Z h a3 k2 .byte (2 : Int32) [(.int (own_nb c0)), (.int (own_nb c1))] (.int (0 : Int32))
set_option maxRecDepth 65536 in
set_option maxHeartbeats 40000000 in
theorem rmc5 (l : Launch) (Z : State) (a0 : Array Value) (hw : ∀ d ∈ tables_1, d.before a0 Z = true) (ws : List Jvm.Cond) (a1 : Addr) (a3 : Addr) (k1 : ClassId) (k2 : ClassId) (c0 c1 : Int32) (h0 : Heap) (n0 : Nat) (Z0 : n0 ≤ h0.size) (V_1 : Arv Z h0 a1 k1 .char (2 : Int32) [(.int c0), (.int c1)] (.int (0 : Int32))) (V_2 : Arv Z h0 a3 k2 .byte (2 : Int32) [(.int (0 : Int32)), (.int (0 : Int32))] (.int (0 : Int32))) (ne_1 : a1 ≠ a3) (n_a3 : n0 ≤ a3) (hc0 : ¬ ((255 : Int32) < c0)) (hc1 : ¬ ((255 : Int32) < c1)) :
    MetFree l (⟨"java/lang/StringUTF16", "compress", "([CI[BII)I"⟩ : MethodName) (head1 (Jvm.Cond.code (⟨"java/lang/StringUTF16", "compress", "([CI[BII)I"⟩ : MethodName) jdk_52_method_21_code 7 (some .int) :: ws) ({ frames := 0, cells := 0, slots := 0, locals := 0 } : Room)) (fun a U => a = #[(.ref a1), (.int (0 : Int32)), (.ref a3), (.int (0 : Int32)), (.int (2 : Int32))] ∧ Z.Warmed39 U.vm ∧ U.heap = h0) (fun _ _ _ _ _ => True) (fun _ U o U' => ∃ v L, o = .returned v ∧ Q_rmc5 Z a1 a3 k1 k2 c0 c1 h0 n0 v U'.heap L ∧ FrameEnd U o U' L ({ frames := 0, cells := 0, slots := 0, locals := 0 } : Room).cells ({ frames := 0, cells := 0, slots := 0, locals := 0 } : Room).slots) := by
  refine MetFree.of_bodySF pf_rmc5 hisR ?_
  intro p e s m args below meth c s₁ Bd hml0 hP hK
  obtain ⟨rfl, hZ, hh⟩ := hP
  have hx := Bd.exec
  have hby := Bd.bytes
  have hml : c.maxLocals = 7 := hml0
  have hown : s.vm.findClass "java/lang/StringUTF16" = some m.cls := findClass_of_methodNamed Bd.named
  have hnm := (name_of_methodNamed Bd.named Bd.method).1
  have X0 : Stand p l e ({ frames := 0, cells := 0, slots := 0, locals := 0 } : Room) s m #[(.ref a1), (.int (0 : Int32)), (.ref a3), (.int (0 : Int32)), (.int (2 : Int32))] below meth c s₁ [] 0 0 := Stand.of_body Bd
  have e0 : s₁.heap = h0 := by rw [← hh, Bd.state]; rfl
  have N0 := Fr.nil n0
  have pre0 : ∀ t, Steps p.tables e below (s₁.setTop (mkF m 0 #[.val (.ref a1), .val (.int (0 : Int32)), .val (.ref a3), .val (.int (0 : Int32)), .val (.int (2 : Int32)), .unset, .unset] [])) t → Steps p.tables e below (s₁.setTop (entryFrame m #[(.ref a1), (.int (0 : Int32)), (.ref a3), (.int (0 : Int32)), (.int (2 : Int32))] 7)) t := fun t k => castTop (ef_rmc5 m a1 (0 : Int32) a3 (0 : Int32) (2 : Int32)) k
  have R0 : ∀ t, Steps p.tables e below (s₁.setTop (mkF m 0 #[.val (.ref a1), .val (.int (0 : Int32)), .val (.ref a3), .val (.int (0 : Int32)), .val (.int (2 : Int32)), .unset, .unset] [])) t → Steps p.tables e below (s₁.setTop (mkF m 0 #[.val (.ref a1), .val (.int (0 : Int32)), .val (.ref a3), .val (.int (0 : Int32)), .val (.int (2 : Int32)), .unset, .unset] [])) t := fun _ k => k
  have R113 : ∀ t, Steps p.tables e below (s₁.setTop (mkF m 7 #[.val (.ref a1), .val (.int (0 : Int32)), .val (.ref a3), .val (.int (0 : Int32)), .val (.int (2 : Int32)), .val (.int (0 : Int32)), .unset] [(.int (2 : Int32)), (.int (0 : Int32))])) t → Steps p.tables e below (s₁.setTop (mkF m 0 #[.val (.ref a1), .val (.int (0 : Int32)), .val (.ref a3), .val (.int (0 : Int32)), .val (.int (2 : Int32)), .unset, .unset] [])) t := by
    intro t k
    refine R0 t ?_
    refine XS.iconst X0.here hx rfl (hb hby d11_0) ?_
    refine XS.istore X0.here hx rfl (hb hby d11_1) rfl (l' := #[.val (.ref a1), .val (.int (0 : Int32)), .val (.ref a3), .val (.int (0 : Int32)), .val (.int (2 : Int32)), .val (.int (0 : Int32)), .unset]) rfl ?_
    refine XS.iload X0.here hx rfl (hb hby d11_3) rfl ?_
    refine XS.iload X0.here hx rfl (hb hby d11_5) rfl ?_
    exact k
  have R114 : ∀ t, Steps p.tables e below (s₁.setTop (mkF m 10 #[.val (.ref a1), .val (.int (0 : Int32)), .val (.ref a3), .val (.int (0 : Int32)), .val (.int (2 : Int32)), .val (.int (0 : Int32)), .unset] [])) t → Steps p.tables e below (s₁.setTop (mkF m 0 #[.val (.ref a1), .val (.int (0 : Int32)), .val (.ref a3), .val (.int (0 : Int32)), .val (.int (2 : Int32)), .unset, .unset] [])) t := by
    intro t k
    refine R113 t ?_
    refine XS.icmpNo X0.here hx rfl (hb hby d11_7) rfl (tlt (by decide)).2.1 ?_
    exact k
  have R115 : ∀ t, Steps p.tables e below (s₁.setTop (mkF m 12 #[.val (.ref a1), .val (.int (0 : Int32)), .val (.ref a3), .val (.int (0 : Int32)), .val (.int (2 : Int32)), .val (.int (0 : Int32)), .unset] [(.int (0 : Int32)), (.ref a1)])) t → Steps p.tables e below (s₁.setTop (mkF m 0 #[.val (.ref a1), .val (.int (0 : Int32)), .val (.ref a3), .val (.int (0 : Int32)), .val (.int (2 : Int32)), .unset, .unset] [])) t := by
    intro t k
    refine R114 t ?_
    refine XS.aloadN X0.here hx rfl (hb hby d11_10) rfl rfl ?_
    refine XS.iloadN X0.here hx rfl (hb hby d11_11) rfl ?_
    exact k
  obtain ⟨cl116, Ar116, q116, Sz116, Nn116, Hh116, G116⟩ := id V_1
  have hin116 : ¬ ((0 : Int32) < 0 ∨ cl116.slots.size ≤ ((0 : Int32)).toNatClampNeg) := inb_of Sz116 (by decide)
  have R117 : ∀ t, Steps p.tables e below (s₁.setTop (mkF m 13 #[.val (.ref a1), .val (.int (0 : Int32)), .val (.ref a3), .val (.int (0 : Int32)), .val (.int (2 : Int32)), .val (.int (0 : Int32)), .unset] [(.int c0)])) t → Steps p.tables e below (s₁.setTop (mkF m 0 #[.val (.ref a1), .val (.int (0 : Int32)), .val (.ref a3), .val (.int (0 : Int32)), .val (.int (2 : Int32)), .unset, .unset] [])) t := by
    intro t k
    refine R115 t ?_
    refine X0.caload hx (j := (0 : Int32)) (v := (.int c0)) (by rw [e0]; exact Ar116.1) (State.isArrayOf_alike hZ.alike Ar116.2.1) Ar116.2.2 hin116 (Hh116.at hin116 rfl) (g := (mkF m 12 #[.val (.ref a1), .val (.int (0 : Int32)), .val (.ref a3), .val (.int (0 : Int32)), .val (.int (2 : Int32)), .val (.int (0 : Int32)), .unset] [(.int (0 : Int32)), (.ref a1)])) rfl rfl (hb hby d11_12) _ ?_
    exact k
  have R118 : ∀ t, Steps p.tables e below (s₁.setTop (mkF m 20 #[.val (.ref a1), .val (.int (0 : Int32)), .val (.ref a3), .val (.int (0 : Int32)), .val (.int (2 : Int32)), .val (.int (0 : Int32)), .val (.int c0)] [(.int (255 : Int32)), (.int c0)])) t → Steps p.tables e below (s₁.setTop (mkF m 0 #[.val (.ref a1), .val (.int (0 : Int32)), .val (.ref a3), .val (.int (0 : Int32)), .val (.int (2 : Int32)), .unset, .unset] [])) t := by
    intro t k
    refine R117 t ?_
    refine XS.istore X0.here hx rfl (hb hby d11_13) rfl (l' := #[.val (.ref a1), .val (.int (0 : Int32)), .val (.ref a3), .val (.int (0 : Int32)), .val (.int (2 : Int32)), .val (.int (0 : Int32)), .val (.int c0)]) rfl ?_
    refine XS.iload X0.here hx rfl (hb hby d11_15) rfl ?_
    refine XS.sipush X0.here hx rfl (hb hby d11_17) ?_
    exact k
  have R119 : ∀ t, Steps p.tables e below (s₁.setTop (mkF m 26 #[.val (.ref a1), .val (.int (0 : Int32)), .val (.ref a3), .val (.int (0 : Int32)), .val (.int (2 : Int32)), .val (.int (0 : Int32)), .val (.int c0)] [])) t → Steps p.tables e below (s₁.setTop (mkF m 0 #[.val (.ref a1), .val (.int (0 : Int32)), .val (.ref a3), .val (.int (0 : Int32)), .val (.int (2 : Int32)), .unset, .unset] [])) t := by
    intro t k
    refine R118 t ?_
    refine XS.icmpYes X0.here hx rfl (pc0 := 20) (pc' := 26) rfl (hb hby d11_20) rfl (flt hc0).2.2.2 (by decide) (by decide) ?_
    exact k
  have R120 : ∀ t, Steps p.tables e below (s₁.setTop (mkF m 31 #[.val (.ref a1), .val (.int (0 : Int32)), .val (.ref a3), .val (.int (0 : Int32)), .val (.int (2 : Int32)), .val (.int (0 : Int32)), .val (.int c0)] [(.int ((c0).toInt8.toInt32)), (.int (0 : Int32)), (.ref a3)])) t → Steps p.tables e below (s₁.setTop (mkF m 0 #[.val (.ref a1), .val (.int (0 : Int32)), .val (.ref a3), .val (.int (0 : Int32)), .val (.int (2 : Int32)), .unset, .unset] [])) t := by
    intro t k
    refine R119 t ?_
    refine XS.aloadN X0.here hx rfl (hb hby d11_26) rfl rfl ?_
    refine XS.iloadN X0.here hx rfl (hb hby d11_27) rfl ?_
    refine XS.iload X0.here hx rfl (hb hby d11_28) rfl ?_
    refine XS.i2b X0.here hx rfl (hb hby d11_30) rfl ?_
    exact k
  obtain ⟨cl121, Ar121, q121, Sz121, Nn121, Hh121, G121⟩ := V_2
  have hin121 : ¬ ((0 : Int32) < 0 ∨ cl121.slots.size ≤ ((0 : Int32)).toNatClampNeg) := inb_of Sz121 ⟨by decide, by decide⟩
  obtain ⟨T121, h121, X121, e121, W121, st121⟩ := stB X0 hx hZ e0 Ar121 (j := (0 : Int32)) hin121 (g := (mkF m 31 #[.val (.ref a1), .val (.int (0 : Int32)), .val (.ref a3), .val (.int (0 : Int32)), .val (.int (2 : Int32)), .val (.int (0 : Int32)), .val (.int c0)] [(.int ((c0).toInt8.toInt32)), (.int (0 : Int32)), (.ref a3)])) rfl rfl (hb hby d11_31)
  have N121 := Fr.snoc X121 N0 n_a3
  have Z121 : n0 ≤ h121.size := Nat.le_trans Z0 (Keep.of_wr W121).1
  have K121 : Keep h0 h121 [a3] := (Keep.refl h0 [a3]).wr W121 (Or.inl (List.mem_of_getElem? (i := 0) rfl))
  have A_122 : Arv Z h121 a1 k1 .char (2 : Int32) [(.int c0), (.int c1)] (.int (0 : Int32)) := V_1.other W121 ne_1
  have V121 : Arv Z h121 a3 k2 .byte (2 : Int32) [(.int (own_nb c0)), (.int (0 : Int32))] (.int (0 : Int32)) := Arv.set Ar121 q121 Sz121 Nn121 Hh121 G121 (fits_nar_byte _) W121 0 rfl (Nat.le_of_ble_eq_true rfl)
  have R123 : ∀ t, Steps p.tables e below (T121.setTop (mkF m 32 #[.val (.ref a1), .val (.int (0 : Int32)), .val (.ref a3), .val (.int (0 : Int32)), .val (.int (2 : Int32)), .val (.int (0 : Int32)), .val (.int c0)] [])) t → Steps p.tables e below (s₁.setTop (mkF m 0 #[.val (.ref a1), .val (.int (0 : Int32)), .val (.ref a3), .val (.int (0 : Int32)), .val (.int (2 : Int32)), .unset, .unset] [])) t := fun t k => R120 t (st121 _ k)
  have R124 : ∀ t, Steps p.tables e below (T121.setTop (mkF m 41 #[.val (.ref a1), .val (.int ((0 : Int32) + (1 : Int32))), .val (.ref a3), .val (.int ((0 : Int32) + (1 : Int32))), .val (.int (2 : Int32)), .val (.int ((0 : Int32) + (1 : Int32))), .val (.int c0)] [])) t → Steps p.tables e below (s₁.setTop (mkF m 0 #[.val (.ref a1), .val (.int (0 : Int32)), .val (.ref a3), .val (.int (0 : Int32)), .val (.int (2 : Int32)), .unset, .unset] [])) t := by
    intro t k
    refine R123 t ?_
    refine XS.iinc X121.here hx rfl (hb hby d11_32) rfl (l' := #[.val (.ref a1), .val (.int ((0 : Int32) + (1 : Int32))), .val (.ref a3), .val (.int (0 : Int32)), .val (.int (2 : Int32)), .val (.int (0 : Int32)), .val (.int c0)]) rfl ?_
    refine XS.iinc X121.here hx rfl (hb hby d11_35) rfl (l' := #[.val (.ref a1), .val (.int ((0 : Int32) + (1 : Int32))), .val (.ref a3), .val (.int ((0 : Int32) + (1 : Int32))), .val (.int (2 : Int32)), .val (.int (0 : Int32)), .val (.int c0)]) rfl ?_
    refine XS.iinc X121.here hx rfl (hb hby d11_38) rfl (l' := #[.val (.ref a1), .val (.int ((0 : Int32) + (1 : Int32))), .val (.ref a3), .val (.int ((0 : Int32) + (1 : Int32))), .val (.int (2 : Int32)), .val (.int ((0 : Int32) + (1 : Int32))), .val (.int c0)]) rfl ?_
    exact k
  have R125 : ∀ t, Steps p.tables e below (T121.setTop (mkF m 3 #[.val (.ref a1), .val (.int (1 : Int32)), .val (.ref a3), .val (.int (1 : Int32)), .val (.int (2 : Int32)), .val (.int (1 : Int32)), .val (.int c0)] [])) t → Steps p.tables e below (s₁.setTop (mkF m 0 #[.val (.ref a1), .val (.int (0 : Int32)), .val (.ref a3), .val (.int (0 : Int32)), .val (.int (2 : Int32)), .unset, .unset] [])) t := by
    intro t k
    refine R124 t ?_
    refine XS.goto X121.here hx rfl (pc0 := 41) (pc' := 3) rfl (hb hby d11_41) (by decide) (by decide) ?_
    exact k
  have R126 : ∀ t, Steps p.tables e below (T121.setTop (mkF m 7 #[.val (.ref a1), .val (.int (1 : Int32)), .val (.ref a3), .val (.int (1 : Int32)), .val (.int (2 : Int32)), .val (.int (1 : Int32)), .val (.int c0)] [(.int (2 : Int32)), (.int (1 : Int32))])) t → Steps p.tables e below (s₁.setTop (mkF m 0 #[.val (.ref a1), .val (.int (0 : Int32)), .val (.ref a3), .val (.int (0 : Int32)), .val (.int (2 : Int32)), .unset, .unset] [])) t := by
    intro t k
    refine R125 t ?_
    refine XS.iload X121.here hx rfl (hb hby d11_3) rfl ?_
    refine XS.iload X121.here hx rfl (hb hby d11_5) rfl ?_
    exact k
  have R127 : ∀ t, Steps p.tables e below (T121.setTop (mkF m 10 #[.val (.ref a1), .val (.int (1 : Int32)), .val (.ref a3), .val (.int (1 : Int32)), .val (.int (2 : Int32)), .val (.int (1 : Int32)), .val (.int c0)] [])) t → Steps p.tables e below (s₁.setTop (mkF m 0 #[.val (.ref a1), .val (.int (0 : Int32)), .val (.ref a3), .val (.int (0 : Int32)), .val (.int (2 : Int32)), .unset, .unset] [])) t := by
    intro t k
    refine R126 t ?_
    refine XS.icmpNo X121.here hx rfl (hb hby d11_7) rfl (tlt (by decide)).2.1 ?_
    exact k
  have R128 : ∀ t, Steps p.tables e below (T121.setTop (mkF m 12 #[.val (.ref a1), .val (.int (1 : Int32)), .val (.ref a3), .val (.int (1 : Int32)), .val (.int (2 : Int32)), .val (.int (1 : Int32)), .val (.int c0)] [(.int (1 : Int32)), (.ref a1)])) t → Steps p.tables e below (s₁.setTop (mkF m 0 #[.val (.ref a1), .val (.int (0 : Int32)), .val (.ref a3), .val (.int (0 : Int32)), .val (.int (2 : Int32)), .unset, .unset] [])) t := by
    intro t k
    refine R127 t ?_
    refine XS.aloadN X121.here hx rfl (hb hby d11_10) rfl rfl ?_
    refine XS.iloadN X121.here hx rfl (hb hby d11_11) rfl ?_
    exact k
  obtain ⟨cl129, Ar129, q129, Sz129, Nn129, Hh129, G129⟩ := id A_122
  have hin129 : ¬ ((1 : Int32) < 0 ∨ cl129.slots.size ≤ ((1 : Int32)).toNatClampNeg) := inb_of Sz129 (by decide)
  have R130 : ∀ t, Steps p.tables e below (T121.setTop (mkF m 13 #[.val (.ref a1), .val (.int (1 : Int32)), .val (.ref a3), .val (.int (1 : Int32)), .val (.int (2 : Int32)), .val (.int (1 : Int32)), .val (.int c0)] [(.int c1)])) t → Steps p.tables e below (s₁.setTop (mkF m 0 #[.val (.ref a1), .val (.int (0 : Int32)), .val (.ref a3), .val (.int (0 : Int32)), .val (.int (2 : Int32)), .unset, .unset] [])) t := by
    intro t k
    refine R128 t ?_
    refine X121.caload hx (j := (1 : Int32)) (v := (.int c1)) (by rw [e121]; exact Ar129.1) (State.isArrayOf_alike hZ.alike Ar129.2.1) Ar129.2.2 hin129 (Hh129.at hin129 rfl) (g := (mkF m 12 #[.val (.ref a1), .val (.int (1 : Int32)), .val (.ref a3), .val (.int (1 : Int32)), .val (.int (2 : Int32)), .val (.int (1 : Int32)), .val (.int c0)] [(.int (1 : Int32)), (.ref a1)])) rfl rfl (hb hby d11_12) _ ?_
    exact k
  have R131 : ∀ t, Steps p.tables e below (T121.setTop (mkF m 20 #[.val (.ref a1), .val (.int (1 : Int32)), .val (.ref a3), .val (.int (1 : Int32)), .val (.int (2 : Int32)), .val (.int (1 : Int32)), .val (.int c1)] [(.int (255 : Int32)), (.int c1)])) t → Steps p.tables e below (s₁.setTop (mkF m 0 #[.val (.ref a1), .val (.int (0 : Int32)), .val (.ref a3), .val (.int (0 : Int32)), .val (.int (2 : Int32)), .unset, .unset] [])) t := by
    intro t k
    refine R130 t ?_
    refine XS.istore X121.here hx rfl (hb hby d11_13) rfl (l' := #[.val (.ref a1), .val (.int (1 : Int32)), .val (.ref a3), .val (.int (1 : Int32)), .val (.int (2 : Int32)), .val (.int (1 : Int32)), .val (.int c1)]) rfl ?_
    refine XS.iload X121.here hx rfl (hb hby d11_15) rfl ?_
    refine XS.sipush X121.here hx rfl (hb hby d11_17) ?_
    exact k
  have R132 : ∀ t, Steps p.tables e below (T121.setTop (mkF m 26 #[.val (.ref a1), .val (.int (1 : Int32)), .val (.ref a3), .val (.int (1 : Int32)), .val (.int (2 : Int32)), .val (.int (1 : Int32)), .val (.int c1)] [])) t → Steps p.tables e below (s₁.setTop (mkF m 0 #[.val (.ref a1), .val (.int (0 : Int32)), .val (.ref a3), .val (.int (0 : Int32)), .val (.int (2 : Int32)), .unset, .unset] [])) t := by
    intro t k
    refine R131 t ?_
    refine XS.icmpYes X121.here hx rfl (pc0 := 20) (pc' := 26) rfl (hb hby d11_20) rfl (flt hc1).2.2.2 (by decide) (by decide) ?_
    exact k
  have R133 : ∀ t, Steps p.tables e below (T121.setTop (mkF m 31 #[.val (.ref a1), .val (.int (1 : Int32)), .val (.ref a3), .val (.int (1 : Int32)), .val (.int (2 : Int32)), .val (.int (1 : Int32)), .val (.int c1)] [(.int ((c1).toInt8.toInt32)), (.int (1 : Int32)), (.ref a3)])) t → Steps p.tables e below (s₁.setTop (mkF m 0 #[.val (.ref a1), .val (.int (0 : Int32)), .val (.ref a3), .val (.int (0 : Int32)), .val (.int (2 : Int32)), .unset, .unset] [])) t := by
    intro t k
    refine R132 t ?_
    refine XS.aloadN X121.here hx rfl (hb hby d11_26) rfl rfl ?_
    refine XS.iloadN X121.here hx rfl (hb hby d11_27) rfl ?_
    refine XS.iload X121.here hx rfl (hb hby d11_28) rfl ?_
    refine XS.i2b X121.here hx rfl (hb hby d11_30) rfl ?_
    exact k
  obtain ⟨cl134, Ar134, q134, Sz134, Nn134, Hh134, G134⟩ := V121
  have hin134 : ¬ ((1 : Int32) < 0 ∨ cl134.slots.size ≤ ((1 : Int32)).toNatClampNeg) := inb_of Sz134 ⟨by decide, by decide⟩
  obtain ⟨T134, h134, X134, e134, W134, st134⟩ := stB X121 hx hZ e121 Ar134 (j := (1 : Int32)) hin134 (g := (mkF m 31 #[.val (.ref a1), .val (.int (1 : Int32)), .val (.ref a3), .val (.int (1 : Int32)), .val (.int (2 : Int32)), .val (.int (1 : Int32)), .val (.int c1)] [(.int ((c1).toInt8.toInt32)), (.int (1 : Int32)), (.ref a3)])) rfl rfl (hb hby d11_31)
  have N134 := Fr.snoc X134 N121 n_a3
  have Z134 : n0 ≤ h134.size := Nat.le_trans Z121 (Keep.of_wr W134).1
  have K134 : Keep h0 h134 [a3] := K121.wr W134 (Or.inl (List.mem_of_getElem? (i := 0) rfl))
  have A_135 : Arv Z h134 a1 k1 .char (2 : Int32) [(.int c0), (.int c1)] (.int (0 : Int32)) := A_122.other W134 ne_1
  have V134 : Arv Z h134 a3 k2 .byte (2 : Int32) [(.int (own_nb c0)), (.int (own_nb c1))] (.int (0 : Int32)) := Arv.set Ar134 q134 Sz134 Nn134 Hh134 G134 (fits_nar_byte _) W134 1 rfl (Nat.le_of_ble_eq_true rfl)
  have R136 : ∀ t, Steps p.tables e below (T134.setTop (mkF m 32 #[.val (.ref a1), .val (.int (1 : Int32)), .val (.ref a3), .val (.int (1 : Int32)), .val (.int (2 : Int32)), .val (.int (1 : Int32)), .val (.int c1)] [])) t → Steps p.tables e below (s₁.setTop (mkF m 0 #[.val (.ref a1), .val (.int (0 : Int32)), .val (.ref a3), .val (.int (0 : Int32)), .val (.int (2 : Int32)), .unset, .unset] [])) t := fun t k => R133 t (st134 _ k)
  have R137 : ∀ t, Steps p.tables e below (T134.setTop (mkF m 41 #[.val (.ref a1), .val (.int ((1 : Int32) + (1 : Int32))), .val (.ref a3), .val (.int ((1 : Int32) + (1 : Int32))), .val (.int (2 : Int32)), .val (.int ((1 : Int32) + (1 : Int32))), .val (.int c1)] [])) t → Steps p.tables e below (s₁.setTop (mkF m 0 #[.val (.ref a1), .val (.int (0 : Int32)), .val (.ref a3), .val (.int (0 : Int32)), .val (.int (2 : Int32)), .unset, .unset] [])) t := by
    intro t k
    refine R136 t ?_
    refine XS.iinc X134.here hx rfl (hb hby d11_32) rfl (l' := #[.val (.ref a1), .val (.int ((1 : Int32) + (1 : Int32))), .val (.ref a3), .val (.int (1 : Int32)), .val (.int (2 : Int32)), .val (.int (1 : Int32)), .val (.int c1)]) rfl ?_
    refine XS.iinc X134.here hx rfl (hb hby d11_35) rfl (l' := #[.val (.ref a1), .val (.int ((1 : Int32) + (1 : Int32))), .val (.ref a3), .val (.int ((1 : Int32) + (1 : Int32))), .val (.int (2 : Int32)), .val (.int (1 : Int32)), .val (.int c1)]) rfl ?_
    refine XS.iinc X134.here hx rfl (hb hby d11_38) rfl (l' := #[.val (.ref a1), .val (.int ((1 : Int32) + (1 : Int32))), .val (.ref a3), .val (.int ((1 : Int32) + (1 : Int32))), .val (.int (2 : Int32)), .val (.int ((1 : Int32) + (1 : Int32))), .val (.int c1)]) rfl ?_
    exact k
  have R138 : ∀ t, Steps p.tables e below (T134.setTop (mkF m 3 #[.val (.ref a1), .val (.int (2 : Int32)), .val (.ref a3), .val (.int (2 : Int32)), .val (.int (2 : Int32)), .val (.int (2 : Int32)), .val (.int c1)] [])) t → Steps p.tables e below (s₁.setTop (mkF m 0 #[.val (.ref a1), .val (.int (0 : Int32)), .val (.ref a3), .val (.int (0 : Int32)), .val (.int (2 : Int32)), .unset, .unset] [])) t := by
    intro t k
    refine R137 t ?_
    refine XS.goto X134.here hx rfl (pc0 := 41) (pc' := 3) rfl (hb hby d11_41) (by decide) (by decide) ?_
    exact k
  have R139 : ∀ t, Steps p.tables e below (T134.setTop (mkF m 7 #[.val (.ref a1), .val (.int (2 : Int32)), .val (.ref a3), .val (.int (2 : Int32)), .val (.int (2 : Int32)), .val (.int (2 : Int32)), .val (.int c1)] [(.int (2 : Int32)), (.int (2 : Int32))])) t → Steps p.tables e below (s₁.setTop (mkF m 0 #[.val (.ref a1), .val (.int (0 : Int32)), .val (.ref a3), .val (.int (0 : Int32)), .val (.int (2 : Int32)), .unset, .unset] [])) t := by
    intro t k
    refine R138 t ?_
    refine XS.iload X134.here hx rfl (hb hby d11_3) rfl ?_
    refine XS.iload X134.here hx rfl (hb hby d11_5) rfl ?_
    exact k
  have R140 : ∀ t, Steps p.tables e below (T134.setTop (mkF m 44 #[.val (.ref a1), .val (.int (2 : Int32)), .val (.ref a3), .val (.int (2 : Int32)), .val (.int (2 : Int32)), .val (.int (2 : Int32)), .val (.int c1)] [])) t → Steps p.tables e below (s₁.setTop (mkF m 0 #[.val (.ref a1), .val (.int (0 : Int32)), .val (.ref a3), .val (.int (0 : Int32)), .val (.int (2 : Int32)), .unset, .unset] [])) t := by
    intro t k
    refine R139 t ?_
    refine XS.icmpYes X134.here hx rfl (pc0 := 7) (pc' := 44) rfl (hb hby d11_7) rfl (flt (by decide)).2.1 (by decide) (by decide) ?_
    exact k
  have R141 : ∀ t, Steps p.tables e below (T134.setTop (mkF m 46 #[.val (.ref a1), .val (.int (2 : Int32)), .val (.ref a3), .val (.int (2 : Int32)), .val (.int (2 : Int32)), .val (.int (2 : Int32)), .val (.int c1)] [(.int (2 : Int32))])) t → Steps p.tables e below (s₁.setTop (mkF m 0 #[.val (.ref a1), .val (.int (0 : Int32)), .val (.ref a3), .val (.int (0 : Int32)), .val (.int (2 : Int32)), .unset, .unset] [])) t := by
    intro t k
    refine R140 t ?_
    refine XS.iload X134.here hx rfl (hb hby d11_44) rfl ?_
    exact k
  obtain ⟨fs, hr, hrun, hended, hW, hsame⟩ := X134.leave (v := some (.int (2 : Int32))) (fun h => by rw [Bd.returns] at h; cases h)
  refine ⟨_, _, pre0 _ (R141 _ (retI X134 hx Bd.returns (hb hby d11_46) hr)), hrun, hended, _, _, rfl, ?_, ⟨_, rfl⟩, hW, hsame.mono (by decide) (by decide)⟩
  show Q_rmc5 Z a1 a3 k1 k2 c0 c1 h0 n0 _ T134.heap _
  rw [e134]
  exact ⟨rfl, N134, K134, V134⟩
theorem d10_0 : decode jdk_52_method_16_code 0 = .ok (.iload_n 2, 1) := by decide +kernel
theorem d10_1 : decode jdk_52_method_16_code 1 = .ok (.newarray .byte, 2) := by decide +kernel
theorem d10_3 : decode jdk_52_method_16_code 3 = .ok (.astore_n 3, 1) := by decide +kernel
theorem d10_4 : decode jdk_52_method_16_code 4 = .ok (.aload_n 0, 1) := by decide +kernel
theorem d10_5 : decode jdk_52_method_16_code 5 = .ok (.iload_n 1, 1) := by decide +kernel
theorem d10_6 : decode jdk_52_method_16_code 6 = .ok (.aload_n 3, 1) := by decide +kernel
theorem d10_7 : decode jdk_52_method_16_code 7 = .ok (.iconst 0, 1) := by decide +kernel
theorem d10_8 : decode jdk_52_method_16_code 8 = .ok (.iload_n 2, 1) := by decide +kernel
theorem d10_9 : decode jdk_52_method_16_code 9 = .ok (.invokestatic 115, 3) := by decide +kernel
theorem d10_12 : decode jdk_52_method_16_code 12 = .ok (.istore 4, 2) := by decide +kernel
theorem d10_14 : decode jdk_52_method_16_code 14 = .ok (.iload 4, 2) := by decide +kernel
theorem d10_16 : decode jdk_52_method_16_code 16 = .ok (.iload_n 2, 1) := by decide +kernel
theorem d10_17 : decode jdk_52_method_16_code 17 = .ok (.if_icmp .eq 40, 3) := by decide +kernel
theorem d10_57 : decode jdk_52_method_16_code 57 = .ok (.aload_n 3, 1) := by decide +kernel
theorem d10_58 : decode jdk_52_method_16_code 58 = .ok (.areturn, 1) := by decide +kernel
theorem pf_rmc3 : plainFor (⟨"java/lang/StringUTF16", "compress", "([CII)[B"⟩ : MethodName) = true := by decide +kernel
theorem pd_4 : parseMethodDescriptor "([CI[BII)I" = some ⟨[(.array .char), .int, (.array .byte), .int, .int], some .int⟩ := by decide +kernel
theorem ef_rmc3 (m : MethodId) (x0 : Addr) (x1 : Int32) (x2 : Int32) : entryFrame m #[(.ref x0), (.int x1), (.int x2)] 6 = mkF m 0 #[.val (.ref x0), .val (.int x1), .val (.int x2), .unset, .unset, .unset] [] := by first | (simp [entryFrame, mkF, argsToLocals, Value.category]; done) | rfl
def Q_rmc3 (Z : State) (a1 : Addr) (k1 : ClassId) (c0 c1 : Int32) (h0 : Heap) (n0 : Nat) (v : Option Value) (h : Heap) (L : List Loc) : Prop := ∃ (b : Addr) (k : ClassId), v = some (.ref b) ∧ Fr n0 L ∧ Keep h0 h [] ∧ h0.size ≤ b ∧ Arv Z h b k .byte (2 : Int32) [(.int (own_nb c0)), (.int (own_nb c1))] (.int (0 : Int32))
set_option maxRecDepth 65536 in
set_option maxHeartbeats 40000000 in
theorem rmc3 (l : Launch) (Z : State) (a0 : Array Value) (hw : ∀ d ∈ tables_1, d.before a0 Z = true) (ws : List Jvm.Cond) (a1 : Addr) (k1 : ClassId) (c0 c1 : Int32) (h0 : Heap) (n0 : Nat) (Z0 : n0 ≤ h0.size) (V_1 : Arv Z h0 a1 k1 .char (2 : Int32) [(.int c0), (.int c1)] (.int (0 : Int32))) (hc0 : ¬ ((255 : Int32) < c0)) (hc1 : ¬ ((255 : Int32) < c1)) :
    MetFree l (⟨"java/lang/StringUTF16", "compress", "([CII)[B"⟩ : MethodName) (head1 (Jvm.Cond.code (⟨"java/lang/StringUTF16", "compress", "([CII)[B"⟩ : MethodName) jdk_52_method_16_code 6 (some (.array .byte)) :: ws) ({ frames := 1, cells := 1, slots := 2, locals := 18 } : Room)) (fun a U => a = #[(.ref a1), (.int (0 : Int32)), (.int (2 : Int32))] ∧ Z.Warmed39 U.vm ∧ U.heap = h0) (fun _ _ _ _ _ => True) (fun _ U o U' => ∃ v L, o = .returned v ∧ Q_rmc3 Z a1 k1 c0 c1 h0 n0 v U'.heap L ∧ FrameEnd U o U' L ({ frames := 1, cells := 1, slots := 2, locals := 18 } : Room).cells ({ frames := 1, cells := 1, slots := 2, locals := 18 } : Room).slots) := by
  refine MetFree.of_bodySF pf_rmc3 hisR ?_
  intro p e s m args below meth c s₁ Bd hml0 hP hK
  obtain ⟨rfl, hZ, hh⟩ := hP
  have hx := Bd.exec
  have hby := Bd.bytes
  have hml : c.maxLocals = 6 := hml0
  have hown : s.vm.findClass "java/lang/StringUTF16" = some m.cls := findClass_of_methodNamed Bd.named
  have hnm := (name_of_methodNamed Bd.named Bd.method).1
  have X0 : Stand p l e ({ frames := 1, cells := 1, slots := 2, locals := 18 } : Room) s m #[(.ref a1), (.int (0 : Int32)), (.int (2 : Int32))] below meth c s₁ [] 0 0 := Stand.of_body Bd
  have e0 : s₁.heap = h0 := by rw [← hh, Bd.state]; rfl
  have N0 := Fr.nil n0
  have pre0 : ∀ t, Steps p.tables e below (s₁.setTop (mkF m 0 #[.val (.ref a1), .val (.int (0 : Int32)), .val (.int (2 : Int32)), .unset, .unset, .unset] [])) t → Steps p.tables e below (s₁.setTop (entryFrame m #[(.ref a1), (.int (0 : Int32)), (.int (2 : Int32))] 6)) t := fun t k => castTop (ef_rmc3 m a1 (0 : Int32) (2 : Int32)) k
  have R0 : ∀ t, Steps p.tables e below (s₁.setTop (mkF m 0 #[.val (.ref a1), .val (.int (0 : Int32)), .val (.int (2 : Int32)), .unset, .unset, .unset] [])) t → Steps p.tables e below (s₁.setTop (mkF m 0 #[.val (.ref a1), .val (.int (0 : Int32)), .val (.int (2 : Int32)), .unset, .unset, .unset] [])) t := fun _ k => k
  have R142 : ∀ t, Steps p.tables e below (s₁.setTop (mkF m 1 #[.val (.ref a1), .val (.int (0 : Int32)), .val (.int (2 : Int32)), .unset, .unset, .unset] [(.int (2 : Int32))])) t → Steps p.tables e below (s₁.setTop (mkF m 0 #[.val (.ref a1), .val (.int (0 : Int32)), .val (.int (2 : Int32)), .unset, .unset, .unset] [])) t := by
    intro t k
    refine R0 t ?_
    refine XS.iloadN X0.here hx rfl (hb hby d10_0) rfl ?_
    exact k
  obtain ⟨T143, h143, c143, X143, e143, x143, B143, st143⟩ := newP X0 hx hZ (hw _ (List.mem_of_getElem? (i := 15) rfl)) e0 (g := (mkF m 1 #[.val (.ref a1), .val (.int (0 : Int32)), .val (.int (2 : Int32)), .unset, .unset, .unset] [(.int (2 : Int32))])) rfl (hb hby d10_1) rfl (by decide) (cap := 2) (by decide) (by decide) (by decide) (by decide)
  obtain ⟨b1, g_b1⟩ : ∃ z, z = h0.size := ⟨_, rfl⟩
  rw [← g_b1] at B143 st143
  have ne_a1_b1 : a1 ≠ b1 := Nat.ne_of_lt (Nat.lt_of_lt_of_eq V_1.lt g_b1.symm)
  have n_b1 : n0 ≤ b1 := Nat.le_trans Z0 (Nat.le_of_eq g_b1.symm)
  have z_b1 : h0.size ≤ b1 := Nat.le_trans (Keep.refl h0 []).1 (Nat.le_of_eq g_b1.symm)
  have Z143 : n0 ≤ h143.size := Nat.le_trans Z0 x143.1
  have K143 : Keep h0 h143 [] := (Keep.refl h0 []).ext x143
  have A_144 : Arv Z h143 a1 k1 .char (2 : Int32) [(.int c0), (.int c1)] (.int (0 : Int32)) := V_1.ext x143
  have V143 : Arv Z h143 b1 c143 .byte (2 : Int32) [(.int (0 : Int32)), (.int (0 : Int32))] (.int (0 : Int32)) := (Arv.new B143 (by decide)).pad (pad_rep [] (.int (0 : Int32)) 2)
  have R145 : ∀ t, Steps p.tables e below (T143.setTop (mkF m 3 #[.val (.ref a1), .val (.int (0 : Int32)), .val (.int (2 : Int32)), .unset, .unset, .unset] [(.ref b1)])) t → Steps p.tables e below (s₁.setTop (mkF m 0 #[.val (.ref a1), .val (.int (0 : Int32)), .val (.int (2 : Int32)), .unset, .unset, .unset] [])) t := fun t k => R142 t (st143 _ k)
  have R146 : ∀ t, Steps p.tables e below (T143.setTop (mkF m 9 #[.val (.ref a1), .val (.int (0 : Int32)), .val (.int (2 : Int32)), .val (.ref b1), .unset, .unset] [(.int (2 : Int32)), (.int (0 : Int32)), (.ref b1), (.int (0 : Int32)), (.ref a1)])) t → Steps p.tables e below (s₁.setTop (mkF m 0 #[.val (.ref a1), .val (.int (0 : Int32)), .val (.int (2 : Int32)), .unset, .unset, .unset] [])) t := by
    intro t k
    refine R145 t ?_
    refine XS.astoreN X143.here hx rfl (hb hby d10_3) rfl rfl (l' := #[.val (.ref a1), .val (.int (0 : Int32)), .val (.int (2 : Int32)), .val (.ref b1), .unset, .unset]) rfl ?_
    refine XS.aloadN X143.here hx rfl (hb hby d10_4) rfl rfl ?_
    refine XS.iloadN X143.here hx rfl (hb hby d10_5) rfl ?_
    refine XS.aloadN X143.here hx rfl (hb hby d10_6) rfl rfl ?_
    refine XS.iconst X143.here hx rfl (hb hby d10_7) ?_
    refine XS.iloadN X143.here hx rfl (hb hby d10_8) rfl ?_
    exact k
  obtain ⟨_, _, ⟨T147, L147, k147, n147⟩, -, X147, ⟨Lc147, hQ147, l147, y147, z147⟩, st147⟩ := Jvm.LawKit.callS X143 hx (y := (⟨"java/lang/StringUTF16", "compress", "([CI[BII)I"⟩ : MethodName)) hown (mvT hZ (hw _ (List.mem_of_getElem? (i := 61) rfl))) (mvT hZ (hw _ (List.mem_of_getElem? (i := 62) rfl))) (mvT hZ (hw _ (List.mem_of_getElem? (i := 59) rfl))) (mvT hZ (hw _ (List.mem_of_getElem? (i := 63) rfl))) (by decide) (backOf (W := 0) (rmc5 l Z a0 hw [] a1 b1 k1 c143 c0 c1 h143 n0 Z143 A_144 V143 ne_a1_b1 n_b1 hc0 hc1) hZ (hw _ (List.mem_of_getElem? (i := 63) rfl)) (hw _ (List.mem_of_getElem? (i := 59) rfl)) (by decide) (by decide)) (g := (mkF m 9 #[.val (.ref a1), .val (.int (0 : Int32)), .val (.int (2 : Int32)), .val (.ref b1), .unset, .unset] [(.int (2 : Int32)), (.int (0 : Int32)), (.ref b1), (.int (0 : Int32)), (.ref a1)])) rfl (by rw [hml]; rfl) (argsL := [(.ref a1), (.int (0 : Int32)), (.ref b1), (.int (0 : Int32)), (.int (2 : Int32))]) (rest := []) (lenOf pd_4 rfl) rfl (by show 2 * 0 + _ ≤ _; exact Nat.le_of_eq rfl) (hb hby d10_9) (fun _ _ => ⟨rfl, e143, (by decide : 1 + 0 ≤ _), (by decide : 2 + 0 ≤ _)⟩)
  dsimp only [Pt.U, Pt.locs, Pt.cells, Pt.slots] at X147 l147 y147 z147 st147 hQ147
  subst l147 y147 z147
  obtain ⟨rfl, M147, J147, Vb147⟩ := hQ147
  have Z147 : n0 ≤ T147.heap.size := Nat.le_trans Z143 J147.1
  have K147 : Keep h0 T147.heap [] := K143.trans J147 (allS (Or.inr z_b1) all0)
  have A_148 : Arv Z T147.heap a1 k1 .char (2 : Int32) [(.int c0), (.int c1)] (.int (0 : Int32)) := A_144.keep J147 (ninS ne_a1_b1 nin0)
  have N147 := Fr.app N0 M147
  have R149 : ∀ t, Steps p.tables e below (T147.setTop (mkF m 12 #[.val (.ref a1), .val (.int (0 : Int32)), .val (.int (2 : Int32)), .val (.ref b1), .unset, .unset] [(.int (2 : Int32))])) t → Steps p.tables e below (s₁.setTop (mkF m 0 #[.val (.ref a1), .val (.int (0 : Int32)), .val (.int (2 : Int32)), .unset, .unset, .unset] [])) t := fun t k => R146 t (st147 _ k)
  have R150 : ∀ t, Steps p.tables e below (T147.setTop (mkF m 17 #[.val (.ref a1), .val (.int (0 : Int32)), .val (.int (2 : Int32)), .val (.ref b1), .val (.int (2 : Int32)), .unset] [(.int (2 : Int32)), (.int (2 : Int32))])) t → Steps p.tables e below (s₁.setTop (mkF m 0 #[.val (.ref a1), .val (.int (0 : Int32)), .val (.int (2 : Int32)), .unset, .unset, .unset] [])) t := by
    intro t k
    refine R149 t ?_
    refine XS.istore X147.here hx rfl (hb hby d10_12) rfl (l' := #[.val (.ref a1), .val (.int (0 : Int32)), .val (.int (2 : Int32)), .val (.ref b1), .val (.int (2 : Int32)), .unset]) rfl ?_
    refine XS.iload X147.here hx rfl (hb hby d10_14) rfl ?_
    refine XS.iloadN X147.here hx rfl (hb hby d10_16) rfl ?_
    exact k
  have R151 : ∀ t, Steps p.tables e below (T147.setTop (mkF m 57 #[.val (.ref a1), .val (.int (0 : Int32)), .val (.int (2 : Int32)), .val (.ref b1), .val (.int (2 : Int32)), .unset] [])) t → Steps p.tables e below (s₁.setTop (mkF m 0 #[.val (.ref a1), .val (.int (0 : Int32)), .val (.int (2 : Int32)), .unset, .unset, .unset] [])) t := by
    intro t k
    refine R150 t ?_
    refine XS.icmpYes X147.here hx rfl (pc0 := 17) (pc' := 57) rfl (hb hby d10_17) rfl (teq rfl).1 (by decide) (by decide) ?_
    exact k
  have R152 : ∀ t, Steps p.tables e below (T147.setTop (mkF m 58 #[.val (.ref a1), .val (.int (0 : Int32)), .val (.int (2 : Int32)), .val (.ref b1), .val (.int (2 : Int32)), .unset] [(.ref b1)])) t → Steps p.tables e below (s₁.setTop (mkF m 0 #[.val (.ref a1), .val (.int (0 : Int32)), .val (.int (2 : Int32)), .unset, .unset, .unset] [])) t := by
    intro t k
    refine R151 t ?_
    refine XS.aloadN X147.here hx rfl (hb hby d10_57) rfl rfl ?_
    exact k
  obtain ⟨fs, hr, hrun, hended, hW, hsame⟩ := X147.leave (v := some (.ref b1)) (fun h => by rw [Bd.returns] at h; cases h)
  refine ⟨_, _, pre0 _ (R152 _ (retOut X147 hx (t := (.array .byte)) Bd.returns rfl (Or.inr (Or.inr (Or.inr (Or.inr ⟨rfl, rfl, rfl⟩)))) (hb hby d10_58) hr)), hrun, hended, _, _, rfl, ?_, ⟨_, rfl⟩, hW, hsame.mono (by decide) (by decide)⟩
  show Q_rmc3 Z a1 k1 c0 c1 h0 n0 _ T147.heap _
  exact ⟨_, _, rfl, N147, K147, z_b1, Vb147⟩
theorem d12_0 : decode jdk_52_method_15_code 0 = .ok (.iload_n 1, 1) := by decide +kernel
theorem d12_1 : decode jdk_52_method_15_code 1 = .ok (.aload_n 0, 1) := by decide +kernel
theorem d12_2 : decode jdk_52_method_15_code 2 = .ok (.arraylength, 1) := by decide +kernel
theorem d12_3 : decode jdk_52_method_15_code 3 = .ok (.isub, 1) := by decide +kernel
theorem d12_4 : decode jdk_52_method_15_code 4 = .ok (.bipush 31, 2) := by decide +kernel
theorem d12_6 : decode jdk_52_method_15_code 6 = .ok (.iushr, 1) := by decide +kernel
theorem d12_7 : decode jdk_52_method_15_code 7 = .ok (.i2b, 1) := by decide +kernel
theorem d12_8 : decode jdk_52_method_15_code 8 = .ok (.ireturn, 1) := by decide +kernel
theorem pf_rm12 : plainFor (⟨"java/lang/StringUTF16", "coderFromArrayLen", "([BI)B"⟩ : MethodName) = true := by decide +kernel
theorem ef_rm12 (m : MethodId) (x0 : Addr) (x1 : Int32) : entryFrame m #[(.ref x0), (.int x1)] 2 = mkF m 0 #[.val (.ref x0), .val (.int x1)] [] := by first | (simp [entryFrame, mkF, argsToLocals, Value.category]; done) | rfl
def Q_rm12 (Z : State) (a1 : Addr) (k1 : ClassId) (vs : List Value) (h0 : Heap) (n0 : Nat) (v : Option Value) (h : Heap) (L : List Loc) : Prop := v = some (.int (0 : Int32)) ∧ Fr n0 L ∧ h = h0
set_option maxRecDepth 65536 in
set_option maxHeartbeats 40000000 in
theorem rm12 (l : Launch) (Z : State) (a0 : Array Value) (hw : ∀ d ∈ tables_1, d.before a0 Z = true) (ws : List Jvm.Cond) (a1 : Addr) (k1 : ClassId) (vs : List Value) (h0 : Heap) (n0 : Nat) (Z0 : n0 ≤ h0.size) (V_1 : Arv Z h0 a1 k1 .byte (2 : Int32) vs (.int (0 : Int32))) :
    MetFree l (⟨"java/lang/StringUTF16", "coderFromArrayLen", "([BI)B"⟩ : MethodName) (head1 (Jvm.Cond.code (⟨"java/lang/StringUTF16", "coderFromArrayLen", "([BI)B"⟩ : MethodName) jdk_52_method_15_code 2 (some .byte) :: ws) ({ frames := 0, cells := 0, slots := 0, locals := 0 } : Room)) (fun a U => a = #[(.ref a1), (.int (2 : Int32))] ∧ Z.Warmed39 U.vm ∧ U.heap = h0) (fun _ _ _ _ _ => True) (fun _ U o U' => ∃ v L, o = .returned v ∧ Q_rm12 Z a1 k1 vs h0 n0 v U'.heap L ∧ FrameEnd U o U' L ({ frames := 0, cells := 0, slots := 0, locals := 0 } : Room).cells ({ frames := 0, cells := 0, slots := 0, locals := 0 } : Room).slots) := by
  refine MetFree.of_bodySF pf_rm12 hisR ?_
  intro p e s m args below meth c s₁ Bd hml0 hP hK
  obtain ⟨rfl, hZ, hh⟩ := hP
  have hx := Bd.exec
  have hby := Bd.bytes
  have hml : c.maxLocals = 2 := hml0
  have hown : s.vm.findClass "java/lang/StringUTF16" = some m.cls := findClass_of_methodNamed Bd.named
  have hnm := (name_of_methodNamed Bd.named Bd.method).1
  have X0 : Stand p l e ({ frames := 0, cells := 0, slots := 0, locals := 0 } : Room) s m #[(.ref a1), (.int (2 : Int32))] below meth c s₁ [] 0 0 := Stand.of_body Bd
  have e0 : s₁.heap = h0 := by rw [← hh, Bd.state]; rfl
  have N0 := Fr.nil n0
  have pre0 : ∀ t, Steps p.tables e below (s₁.setTop (mkF m 0 #[.val (.ref a1), .val (.int (2 : Int32))] [])) t → Steps p.tables e below (s₁.setTop (entryFrame m #[(.ref a1), (.int (2 : Int32))] 2)) t := fun t k => castTop (ef_rm12 m a1 (2 : Int32)) k
  have R0 : ∀ t, Steps p.tables e below (s₁.setTop (mkF m 0 #[.val (.ref a1), .val (.int (2 : Int32))] [])) t → Steps p.tables e below (s₁.setTop (mkF m 0 #[.val (.ref a1), .val (.int (2 : Int32))] [])) t := fun _ k => k
  have R153 : ∀ t, Steps p.tables e below (s₁.setTop (mkF m 2 #[.val (.ref a1), .val (.int (2 : Int32))] [(.ref a1), (.int (2 : Int32))])) t → Steps p.tables e below (s₁.setTop (mkF m 0 #[.val (.ref a1), .val (.int (2 : Int32))] [])) t := by
    intro t k
    refine R0 t ?_
    refine XS.iloadN X0.here hx rfl (hb hby d12_0) rfl ?_
    refine XS.aloadN X0.here hx rfl (hb hby d12_1) rfl rfl ?_
    exact k
  obtain ⟨cl154, Ar154, q154, Sz154, Nn154, Hh154, G154⟩ := id V_1
  have R155 : ∀ t, Steps p.tables e below (s₁.setTop (mkF m 3 #[.val (.ref a1), .val (.int (2 : Int32))] [(.int (2 : Int32)), (.int (2 : Int32))])) t → Steps p.tables e below (s₁.setTop (mkF m 0 #[.val (.ref a1), .val (.int (2 : Int32))] [])) t := by
    intro t k
    refine R153 t ?_
    refine X0.arraylength hx (by rw [e0]; exact Ar154.1) (State.isArrayOf_alike hZ.alike Ar154.2.1) (g := (mkF m 2 #[.val (.ref a1), .val (.int (2 : Int32))] [(.ref a1), (.int (2 : Int32))])) rfl rfl (hb hby d12_2) _ ?_
    rw [len_of Sz154 Nn154]
    exact k
  have R156 : ∀ t, Steps p.tables e below (s₁.setTop (mkF m 8 #[.val (.ref a1), .val (.int (2 : Int32))] [(.int (0 : Int32))])) t → Steps p.tables e below (s₁.setTop (mkF m 0 #[.val (.ref a1), .val (.int (2 : Int32))] [])) t := by
    intro t k
    refine R155 t ?_
    refine XS.isub X0.here hx rfl (hb hby d12_3) rfl ?_
    refine XS.bipush X0.here hx rfl (hb hby d12_4) ?_
    refine XS.iushr X0.here hx rfl (hb hby d12_6) rfl ?_
    refine XS.i2b X0.here hx rfl (hb hby d12_7) rfl ?_
    exact k
  obtain ⟨fs, hr, hrun, hended, hW, hsame⟩ := X0.leave (v := some (.int (0 : Int32))) (fun h => by rw [Bd.returns] at h; cases h)
  refine ⟨_, _, pre0 _ (R156 _ (retN X0 hx (t := .byte) Bd.returns (by simp) (hb hby d12_8) hr)), hrun, hended, _, _, rfl, ?_, ⟨_, rfl⟩, hW, hsame.mono (by decide) (by decide)⟩
  show Q_rm12 Z a1 k1 vs h0 n0 _ s₁.heap _
  rw [e0]
  exact ⟨rfl, N0, rfl⟩
theorem d2_0 : decode jdk_42_method_149_code 0 = .ok (.aload_n 0, 1) := by decide +kernel
theorem d2_1 : decode jdk_42_method_149_code 1 = .ok (.invokespecial 1, 3) := by decide +kernel
theorem d2_4 : decode jdk_42_method_149_code 4 = .ok (.iload_n 3, 1) := by decide +kernel
theorem d2_5 : decode jdk_42_method_149_code 5 = .ok (.ifCond .ne 22, 3) := by decide +kernel
theorem d2_27 : decode jdk_42_method_149_code 27 = .ok (.getstatic 38, 3) := by decide +kernel
theorem d2_30 : decode jdk_42_method_149_code 30 = .ok (.ifCond .eq 28, 3) := by decide +kernel
theorem d2_33 : decode jdk_42_method_149_code 33 = .ok (.aload_n 1, 1) := by decide +kernel
theorem d2_34 : decode jdk_42_method_149_code 34 = .ok (.iload_n 2, 1) := by decide +kernel
theorem d2_35 : decode jdk_42_method_149_code 35 = .ok (.iload_n 3, 1) := by decide +kernel
theorem d2_36 : decode jdk_42_method_149_code 36 = .ok (.invokestatic 177, 3) := by decide +kernel
theorem d2_39 : decode jdk_42_method_149_code 39 = .ok (.astore 5, 2) := by decide +kernel
theorem d2_41 : decode jdk_42_method_149_code 41 = .ok (.aload_n 0, 1) := by decide +kernel
theorem d2_42 : decode jdk_42_method_149_code 42 = .ok (.aload 5, 2) := by decide +kernel
theorem d2_44 : decode jdk_42_method_149_code 44 = .ok (.iload_n 3, 1) := by decide +kernel
theorem d2_45 : decode jdk_42_method_149_code 45 = .ok (.invokestatic 47, 3) := by decide +kernel
theorem d2_48 : decode jdk_42_method_149_code 48 = .ok (.putfield 15, 3) := by decide +kernel
theorem d2_51 : decode jdk_42_method_149_code 51 = .ok (.aload_n 0, 1) := by decide +kernel
theorem d2_52 : decode jdk_42_method_149_code 52 = .ok (.aload 5, 2) := by decide +kernel
theorem d2_54 : decode jdk_42_method_149_code 54 = .ok (.putfield 9, 3) := by decide +kernel
theorem d2_57 : decode jdk_42_method_149_code 57 = .ok (.return_, 1) := by decide +kernel
theorem pf_rmi5 : plainFor (⟨"java/lang/String", "<init>", "([CIILjava/lang/Void;)V"⟩ : MethodName) = true := by decide +kernel
theorem pd_5 : parseMethodDescriptor "([CII)[B" = some ⟨[(.array .char), .int, .int], some (.array .byte)⟩ := by decide +kernel
theorem pd_6 : parseMethodDescriptor "([BI)B" = some ⟨[(.array .byte), .int], some .byte⟩ := by decide +kernel
theorem ef_rmi5 (m : MethodId) (x0 : Addr) (x1 : Addr) (x2 : Int32) (x3 : Int32) : entryFrame m #[(.ref x0), (.ref x1), (.int x2), (.int x3), .null] 6 = mkF m 0 #[.val (.ref x0), .val (.ref x1), .val (.int x2), .val (.int x3), .val .null, .unset] [] := by first | (simp [entryFrame, mkF, argsToLocals, Value.category]; done) | rfl
def Q_rmi5 (Z : State) (a1 : Addr) (a2 : Addr) (u1 : Value) (u2 : Value) (k1 : ClassId) (c0 c1 cs : Int32) (h0 : Heap) (n0 : Nat) (v : Option Value) (h : Heap) (L : List Loc) : Prop := v = none ∧ Fr n0 L ∧ Keep h0 h [a1]
set_option maxRecDepth 65536 in
set_option maxHeartbeats 40000000 in
theorem rmi5 (l : Launch) (Z : State) (a0 : Array Value) (hw : ∀ d ∈ tables_1, d.before a0 Z = true) (ws : List Jvm.Cond) (a1 : Addr) (a2 : Addr) (u1 : Value) (u2 : Value) (k1 : ClassId) (c0 c1 cs : Int32) (h0 : Heap) (n0 : Nat) (Z0 : n0 ≤ h0.size) (E_0 : Exa Z h0 a1 "java/lang/String") (F_00 : Fld Z h0 a1 "java/lang/String" "value" "[B" u1) (F_01 : Fld Z h0 a1 "java/lang/String" "coder" "B" u2) (n_a1 : n0 ≤ a1) (V_1 : Arv Z h0 a2 k1 .char (2 : Int32) [(.int c0), (.int c1)] (.int (0 : Int32))) (hc0 : ¬ ((255 : Int32) < c0)) (hc1 : ¬ ((255 : Int32) < c1)) (S_1 : Sta Z h0 "java/lang/String" "COMPACT_STRINGS" "Z" (.int cs)) (hcs : ¬ (cs = (0 : Int32))) (ne_21 : a2 ≠ a1) :
    MetFree l (⟨"java/lang/String", "<init>", "([CIILjava/lang/Void;)V"⟩ : MethodName) (head1 (Jvm.Cond.code (⟨"java/lang/String", "<init>", "([CIILjava/lang/Void;)V"⟩ : MethodName) jdk_42_method_149_code 6 none :: ws) ({ frames := 2, cells := 1, slots := 2, locals := 35 } : Room)) (fun a U => a = #[(.ref a1), (.ref a2), (.int (0 : Int32)), (.int (2 : Int32)), .null] ∧ Z.Warmed39 U.vm ∧ U.heap = h0) (fun _ _ _ _ _ => True) (fun _ U o U' => ∃ v L, o = .returned v ∧ Q_rmi5 Z a1 a2 u1 u2 k1 c0 c1 cs h0 n0 v U'.heap L ∧ FrameEnd U o U' L ({ frames := 2, cells := 1, slots := 2, locals := 35 } : Room).cells ({ frames := 2, cells := 1, slots := 2, locals := 35 } : Room).slots) := by
  refine MetFree.of_bodySF pf_rmi5 hisR ?_
  intro p e s m args below meth c s₁ Bd hml0 hP hK
  obtain ⟨rfl, hZ, hh⟩ := hP
  have hx := Bd.exec
  have hby := Bd.bytes
  have hml : c.maxLocals = 6 := hml0
  have hown : s.vm.findClass "java/lang/String" = some m.cls := findClass_of_methodNamed Bd.named
  have hnm := (name_of_methodNamed Bd.named Bd.method).1
  have X0 : Stand p l e ({ frames := 2, cells := 1, slots := 2, locals := 35 } : Room) s m #[(.ref a1), (.ref a2), (.int (0 : Int32)), (.int (2 : Int32)), .null] below meth c s₁ [] 0 0 := Stand.of_body Bd
  have e0 : s₁.heap = h0 := by rw [← hh, Bd.state]; rfl
  have N0 := Fr.nil n0
  have pre0 : ∀ t, Steps p.tables e below (s₁.setTop (mkF m 0 #[.val (.ref a1), .val (.ref a2), .val (.int (0 : Int32)), .val (.int (2 : Int32)), .val .null, .unset] [])) t → Steps p.tables e below (s₁.setTop (entryFrame m #[(.ref a1), (.ref a2), (.int (0 : Int32)), (.int (2 : Int32)), .null] 6)) t := fun t k => castTop (ef_rmi5 m a1 a2 (0 : Int32) (2 : Int32)) k
  have R0 : ∀ t, Steps p.tables e below (s₁.setTop (mkF m 0 #[.val (.ref a1), .val (.ref a2), .val (.int (0 : Int32)), .val (.int (2 : Int32)), .val .null, .unset] [])) t → Steps p.tables e below (s₁.setTop (mkF m 0 #[.val (.ref a1), .val (.ref a2), .val (.int (0 : Int32)), .val (.int (2 : Int32)), .val .null, .unset] [])) t := fun _ k => k
  have R157 : ∀ t, Steps p.tables e below (s₁.setTop (mkF m 1 #[.val (.ref a1), .val (.ref a2), .val (.int (0 : Int32)), .val (.int (2 : Int32)), .val .null, .unset] [(.ref a1)])) t → Steps p.tables e below (s₁.setTop (mkF m 0 #[.val (.ref a1), .val (.ref a2), .val (.int (0 : Int32)), .val (.int (2 : Int32)), .val .null, .unset] [])) t := by
    intro t k
    refine R0 t ?_
    refine XS.aloadN X0.here hx rfl (hb hby d2_0) rfl rfl ?_
    exact k
  obtain ⟨T158, X158, e158, st158⟩ := initO X0 hx hZ hown (hw _ (List.mem_of_getElem? (i := 11) rfl)) (hw _ (List.mem_of_getElem? (i := 12) rfl)) (hw _ (List.mem_of_getElem? (i := 13) rfl)) e0 (g := (mkF m 1 #[.val (.ref a1), .val (.ref a2), .val (.int (0 : Int32)), .val (.int (2 : Int32)), .val .null, .unset] [(.ref a1)])) rfl (by rw [hml]; rfl) rfl (hb hby d2_1) (by decide) (W := 0) (by show 2 * 0 + _ ≤ _; exact Nat.le_of_eq rfl) (by decide)
  have R159 : ∀ t, Steps p.tables e below (T158.setTop (mkF m 4 #[.val (.ref a1), .val (.ref a2), .val (.int (0 : Int32)), .val (.int (2 : Int32)), .val .null, .unset] [])) t → Steps p.tables e below (s₁.setTop (mkF m 0 #[.val (.ref a1), .val (.ref a2), .val (.int (0 : Int32)), .val (.int (2 : Int32)), .val .null, .unset] [])) t := fun t k => R157 t (st158 _ k)
  have R160 : ∀ t, Steps p.tables e below (T158.setTop (mkF m 5 #[.val (.ref a1), .val (.ref a2), .val (.int (0 : Int32)), .val (.int (2 : Int32)), .val .null, .unset] [(.int (2 : Int32))])) t → Steps p.tables e below (s₁.setTop (mkF m 0 #[.val (.ref a1), .val (.ref a2), .val (.int (0 : Int32)), .val (.int (2 : Int32)), .val .null, .unset] [])) t := by
    intro t k
    refine R159 t ?_
    refine XS.iloadN X158.here hx rfl (hb hby d2_4) rfl ?_
    exact k
  have R161 : ∀ t, Steps p.tables e below (T158.setTop (mkF m 27 #[.val (.ref a1), .val (.ref a2), .val (.int (0 : Int32)), .val (.int (2 : Int32)), .val .null, .unset] [])) t → Steps p.tables e below (s₁.setTop (mkF m 0 #[.val (.ref a1), .val (.ref a2), .val (.int (0 : Int32)), .val (.int (2 : Int32)), .val .null, .unset] [])) t := by
    intro t k
    refine R160 t ?_
    refine XS.ifYes X158.here hx rfl (pc0 := 5) (pc' := 27) rfl (hb hby d2_5) rfl ((if0 _ _).trans (feq (by decide)).2) (by decide) (by decide) ?_
    exact k
  obtain ⟨T162, X162, e162, st162⟩ := getS2 X158 hx hZ hown (host := "") (Or.inl (hw _ (List.mem_of_getElem? (i := 56) rfl))) Via.refl e158 S_1 (g := (mkF m 27 #[.val (.ref a1), .val (.ref a2), .val (.int (0 : Int32)), .val (.int (2 : Int32)), .val .null, .unset] [])) rfl (hb hby d2_27)
  have R163 : ∀ t, Steps p.tables e below (T162.setTop (mkF m 30 #[.val (.ref a1), .val (.ref a2), .val (.int (0 : Int32)), .val (.int (2 : Int32)), .val .null, .unset] [(.int cs)])) t → Steps p.tables e below (s₁.setTop (mkF m 0 #[.val (.ref a1), .val (.ref a2), .val (.int (0 : Int32)), .val (.int (2 : Int32)), .val .null, .unset] [])) t := fun t k => R161 t (st162 _ k)
  have R164 : ∀ t, Steps p.tables e below (T162.setTop (mkF m 33 #[.val (.ref a1), .val (.ref a2), .val (.int (0 : Int32)), .val (.int (2 : Int32)), .val .null, .unset] [])) t → Steps p.tables e below (s₁.setTop (mkF m 0 #[.val (.ref a1), .val (.ref a2), .val (.int (0 : Int32)), .val (.int (2 : Int32)), .val .null, .unset] [])) t := by
    intro t k
    refine R163 t ?_
    refine XS.ifNo X162.here hx rfl (hb hby d2_30) rfl ((if0 _ _).trans (feq hcs).1) ?_
    exact k
  have R165 : ∀ t, Steps p.tables e below (T162.setTop (mkF m 36 #[.val (.ref a1), .val (.ref a2), .val (.int (0 : Int32)), .val (.int (2 : Int32)), .val .null, .unset] [(.int (2 : Int32)), (.int (0 : Int32)), (.ref a2)])) t → Steps p.tables e below (s₁.setTop (mkF m 0 #[.val (.ref a1), .val (.ref a2), .val (.int (0 : Int32)), .val (.int (2 : Int32)), .val .null, .unset] [])) t := by
    intro t k
    refine R164 t ?_
    refine XS.aloadN X162.here hx rfl (hb hby d2_33) rfl rfl ?_
    refine XS.iloadN X162.here hx rfl (hb hby d2_34) rfl ?_
    refine XS.iloadN X162.here hx rfl (hb hby d2_35) rfl ?_
    exact k
  obtain ⟨_, _, ⟨T166, L166, k166, n166⟩, -, X166, ⟨Lc166, hQ166, l166, y166, z166⟩, st166⟩ := Jvm.LawKit.callS X162 hx (y := (⟨"java/lang/StringUTF16", "compress", "([CII)[B"⟩ : MethodName)) hown (mvT hZ (hw _ (List.mem_of_getElem? (i := 57) rfl))) (mvT hZ (hw _ (List.mem_of_getElem? (i := 58) rfl))) (mvT hZ (hw _ (List.mem_of_getElem? (i := 59) rfl))) (mvT hZ (hw _ (List.mem_of_getElem? (i := 60) rfl))) (by decide) (backOf (W := 0) (rmc3 l Z a0 hw [] a2 k1 c0 c1 h0 n0 Z0 V_1 hc0 hc1) hZ (hw _ (List.mem_of_getElem? (i := 60) rfl)) (hw _ (List.mem_of_getElem? (i := 59) rfl)) (by decide) (by decide)) (g := (mkF m 36 #[.val (.ref a1), .val (.ref a2), .val (.int (0 : Int32)), .val (.int (2 : Int32)), .val .null, .unset] [(.int (2 : Int32)), (.int (0 : Int32)), (.ref a2)])) rfl (by rw [hml]; rfl) (argsL := [(.ref a2), (.int (0 : Int32)), (.int (2 : Int32))]) (rest := []) (lenOf pd_5 rfl) rfl (by show 2 * 0 + _ ≤ _; exact Nat.le_of_eq rfl) (hb hby d2_36) (fun _ _ => ⟨rfl, e162, (by decide : 0 + 1 ≤ _), (by decide : 0 + 2 ≤ _)⟩)
  dsimp only [Pt.U, Pt.locs, Pt.cells, Pt.slots] at X166 l166 y166 z166 st166 hQ166
  subst l166 y166 z166
  obtain ⟨bb, kb, rfl, M166, J166, zf166, Vb166⟩ := hQ166
  have Z166 : n0 ≤ T166.heap.size := Nat.le_trans Z0 J166.1
  have K166 : Keep h0 T166.heap [a1] := (Keep.refl h0 [a1]).trans J166 all0
  have ne_a1_bb : a1 ≠ bb := Nat.ne_of_lt (Nat.lt_of_lt_of_le E_0.lt zf166)
  have ne_a2_bb : a2 ≠ bb := Nat.ne_of_lt (Nat.lt_of_lt_of_le V_1.lt zf166)
  have n_bb : n0 ≤ bb := Nat.le_trans Z0 zf166
  have z_bb : h0.size ≤ bb := Nat.le_trans (Keep.refl h0 [a1]).1 zf166
  have E_167 : Exa Z T166.heap a1 "java/lang/String" := E_0.keep J166
  have F_168 : Fld Z T166.heap a1 "java/lang/String" "value" "[B" u1 := F_00.keep J166 nin0
  have F_169 : Fld Z T166.heap a1 "java/lang/String" "coder" "B" u2 := F_01.keep J166 nin0
  have A_170 : Arv Z T166.heap a2 k1 .char (2 : Int32) [(.int c0), (.int c1)] (.int (0 : Int32)) := V_1.keep J166 nin0
  have S_171 : Sta Z T166.heap "java/lang/String" "COMPACT_STRINGS" "Z" (.int cs) := own_sta_keep S_1 J166 all0
  have N166 := Fr.app N0 M166
  have R172 : ∀ t, Steps p.tables e below (T166.setTop (mkF m 39 #[.val (.ref a1), .val (.ref a2), .val (.int (0 : Int32)), .val (.int (2 : Int32)), .val .null, .unset] [(.ref bb)])) t → Steps p.tables e below (s₁.setTop (mkF m 0 #[.val (.ref a1), .val (.ref a2), .val (.int (0 : Int32)), .val (.int (2 : Int32)), .val .null, .unset] [])) t := fun t k => R165 t (st166 _ k)
  have R173 : ∀ t, Steps p.tables e below (T166.setTop (mkF m 45 #[.val (.ref a1), .val (.ref a2), .val (.int (0 : Int32)), .val (.int (2 : Int32)), .val .null, .val (.ref bb)] [(.int (2 : Int32)), (.ref bb), (.ref a1)])) t → Steps p.tables e below (s₁.setTop (mkF m 0 #[.val (.ref a1), .val (.ref a2), .val (.int (0 : Int32)), .val (.int (2 : Int32)), .val .null, .unset] [])) t := by
    intro t k
    refine R172 t ?_
    refine XS.astore X166.here hx rfl (hb hby d2_39) rfl rfl (l' := #[.val (.ref a1), .val (.ref a2), .val (.int (0 : Int32)), .val (.int (2 : Int32)), .val .null, .val (.ref bb)]) rfl ?_
    refine XS.aloadN X166.here hx rfl (hb hby d2_41) rfl rfl ?_
    refine XS.aload X166.here hx rfl (hb hby d2_42) rfl rfl ?_
    refine XS.iloadN X166.here hx rfl (hb hby d2_44) rfl ?_
    exact k
  obtain ⟨_, _, ⟨T174, L174, k174, n174⟩, -, X174, ⟨Lc174, hQ174, l174, y174, z174⟩, st174⟩ := Jvm.LawKit.callS X166 hx (y := (⟨"java/lang/StringUTF16", "coderFromArrayLen", "([BI)B"⟩ : MethodName)) hown (mvT hZ (hw _ (List.mem_of_getElem? (i := 64) rfl))) (mvT hZ (hw _ (List.mem_of_getElem? (i := 65) rfl))) (mvT hZ (hw _ (List.mem_of_getElem? (i := 59) rfl))) (mvT hZ (hw _ (List.mem_of_getElem? (i := 66) rfl))) (by decide) (backOf (W := 1) (rm12 l Z a0 hw [] bb kb [(.int (own_nb c0)), (.int (own_nb c1))] T166.heap n0 Z166 Vb166) hZ (hw _ (List.mem_of_getElem? (i := 66) rfl)) (hw _ (List.mem_of_getElem? (i := 59) rfl)) (by decide) (by decide)) (g := (mkF m 45 #[.val (.ref a1), .val (.ref a2), .val (.int (0 : Int32)), .val (.int (2 : Int32)), .val .null, .val (.ref bb)] [(.int (2 : Int32)), (.ref bb), (.ref a1)])) rfl (by rw [hml]; rfl) (argsL := [(.ref bb), (.int (2 : Int32))]) (rest := [(.ref a1)]) (lenOf pd_6 rfl) rfl (by show 2 * 0 + _ ≤ _; exact Nat.le_of_eq rfl) (hb hby d2_45) (fun _ _ => ⟨rfl, rfl, (by decide : 1 + 0 ≤ _), (by decide : 2 + 0 ≤ _)⟩)
  dsimp only [Pt.U, Pt.locs, Pt.cells, Pt.slots] at X174 l174 y174 z174 st174 hQ174
  subst l174 y174 z174
  obtain ⟨rfl, M174, e174⟩ := hQ174
  have N174 := Fr.app N166 M174
  have R175 : ∀ t, Steps p.tables e below (T174.setTop (mkF m 48 #[.val (.ref a1), .val (.ref a2), .val (.int (0 : Int32)), .val (.int (2 : Int32)), .val .null, .val (.ref bb)] [(.int (0 : Int32)), (.ref a1)])) t → Steps p.tables e below (s₁.setTop (mkF m 0 #[.val (.ref a1), .val (.ref a2), .val (.int (0 : Int32)), .val (.int (2 : Int32)), .val .null, .unset] [])) t := fun t k => R173 t (st174 _ k)
  obtain ⟨T176, h176, X176, e176, W176, st176⟩ := putF X174 hx hZ hown (host := "") (Or.inl (hw _ (List.mem_of_getElem? (i := 21) rfl))) Via.refl e174 F_169 E_167 (Or.inr ⟨(hw _ (List.mem_of_getElem? (i := 17) rfl)), rfl, hnm⟩) (hw _ (List.mem_of_getElem? (i := 1) rfl)) (ty := .byte) (by decide) rfl rfl (g := (mkF m 48 #[.val (.ref a1), .val (.ref a2), .val (.int (0 : Int32)), .val (.int (2 : Int32)), .val .null, .val (.ref bb)] [(.int (0 : Int32)), (.ref a1)])) rfl rfl (hb hby d2_48)
  have N176 := Fr.snoc X176 N174 n_a1
  have Z176 : n0 ≤ h176.size := Nat.le_trans Z166 (Keep.of_wr W176).1
  have K176 : Keep h0 h176 [a1] := K166.wr W176 (Or.inl (List.mem_of_getElem? (i := 0) rfl))
  have E_177 : Exa Z h176 a1 "java/lang/String" := E_167.wr W176
  have F_178 : Fld Z h176 a1 "java/lang/String" "value" "[B" u1 := F_168.other W176 (Or.inr (slot_ne (Or.inr (hw _ (List.mem_of_getElem? (i := 16) rfl))) (Or.inr (hw _ (List.mem_of_getElem? (i := 17) rfl))) (by decide) (t := (.array .byte)) (t' := .byte) (by decide) (by decide)))
  have F_179 : Fld Z h176 a1 "java/lang/String" "coder" "B" (.int (0 : Int32)) := F_169.same W176
  have A_180 : Arv Z h176 a2 k1 .char (2 : Int32) [(.int c0), (.int c1)] (.int (0 : Int32)) := A_170.other W176 ne_21
  have S_181 : Sta Z h176 "java/lang/String" "COMPACT_STRINGS" "Z" (.int cs) := S_171.wr W176
  have A_182 : Arv Z h176 bb kb .byte (2 : Int32) [(.int (own_nb c0)), (.int (own_nb c1))] (.int (0 : Int32)) := Vb166.other W176 (Ne.symm ne_a1_bb)
  have R183 : ∀ t, Steps p.tables e below (T176.setTop (mkF m 51 #[.val (.ref a1), .val (.ref a2), .val (.int (0 : Int32)), .val (.int (2 : Int32)), .val .null, .val (.ref bb)] [])) t → Steps p.tables e below (s₁.setTop (mkF m 0 #[.val (.ref a1), .val (.ref a2), .val (.int (0 : Int32)), .val (.int (2 : Int32)), .val .null, .unset] [])) t := fun t k => R175 t (st176 _ k)
  have R184 : ∀ t, Steps p.tables e below (T176.setTop (mkF m 54 #[.val (.ref a1), .val (.ref a2), .val (.int (0 : Int32)), .val (.int (2 : Int32)), .val .null, .val (.ref bb)] [(.ref bb), (.ref a1)])) t → Steps p.tables e below (s₁.setTop (mkF m 0 #[.val (.ref a1), .val (.ref a2), .val (.int (0 : Int32)), .val (.int (2 : Int32)), .val .null, .unset] [])) t := by
    intro t k
    refine R183 t ?_
    refine XS.aloadN X176.here hx rfl (hb hby d2_51) rfl rfl ?_
    refine XS.aload X176.here hx rfl (hb hby d2_52) rfl rfl ?_
    exact k
  obtain ⟨T185, h185, X185, e185, W185, st185⟩ := putF X176 hx hZ hown (host := "") (Or.inl (hw _ (List.mem_of_getElem? (i := 20) rfl))) Via.refl e176 F_178 E_177 (Or.inr ⟨(hw _ (List.mem_of_getElem? (i := 16) rfl)), rfl, hnm⟩) (hw _ (List.mem_of_getElem? (i := 1) rfl)) (ty := (.array .byte)) (by decide) rfl rfl (g := (mkF m 54 #[.val (.ref a1), .val (.ref a2), .val (.int (0 : Int32)), .val (.int (2 : Int32)), .val .null, .val (.ref bb)] [(.ref bb), (.ref a1)])) rfl rfl (hb hby d2_54)
  have N185 := Fr.snoc X185 N176 n_a1
  have Z185 : n0 ≤ h185.size := Nat.le_trans Z176 (Keep.of_wr W185).1
  have K185 : Keep h0 h185 [a1] := K176.wr W185 (Or.inl (List.mem_of_getElem? (i := 0) rfl))
  have E_186 : Exa Z h185 a1 "java/lang/String" := E_177.wr W185
  have F_187 : Fld Z h185 a1 "java/lang/String" "value" "[B" (.ref bb) := F_178.same W185
  have F_188 : Fld Z h185 a1 "java/lang/String" "coder" "B" (.int (0 : Int32)) := F_179.other W185 (Or.inr (slot_ne (Or.inr (hw _ (List.mem_of_getElem? (i := 17) rfl))) (Or.inr (hw _ (List.mem_of_getElem? (i := 16) rfl))) (by decide) (t := .byte) (t' := (.array .byte)) (by decide) (by decide)))
  have A_189 : Arv Z h185 a2 k1 .char (2 : Int32) [(.int c0), (.int c1)] (.int (0 : Int32)) := A_180.other W185 ne_21
  have S_190 : Sta Z h185 "java/lang/String" "COMPACT_STRINGS" "Z" (.int cs) := S_181.wr W185
  have A_191 : Arv Z h185 bb kb .byte (2 : Int32) [(.int (own_nb c0)), (.int (own_nb c1))] (.int (0 : Int32)) := A_182.other W185 (Ne.symm ne_a1_bb)
  have R192 : ∀ t, Steps p.tables e below (T185.setTop (mkF m 57 #[.val (.ref a1), .val (.ref a2), .val (.int (0 : Int32)), .val (.int (2 : Int32)), .val .null, .val (.ref bb)] [])) t → Steps p.tables e below (s₁.setTop (mkF m 0 #[.val (.ref a1), .val (.ref a2), .val (.int (0 : Int32)), .val (.int (2 : Int32)), .val .null, .unset] [])) t := fun t k => R184 t (st185 _ k)
  obtain ⟨fs, hr, hrun, hended, hW, hsame⟩ := X185.leave (v := none) (fun _ => rfl)
  refine ⟨_, _, pre0 _ (R192 _ (X185.returnOut hx Bd.returns (hb hby d2_57) hr)), hrun, hended, _, _, rfl, ?_, ⟨_, rfl⟩, hW, hsame.mono (by decide) (by decide)⟩
  show Q_rmi5 Z a1 a2 u1 u2 k1 c0 c1 cs h0 n0 _ T185.heap _
  rw [e185]
  exact ⟨rfl, N185, K185⟩
theorem d1_0 : decode jdk_42_method_3_code 0 = .ok (.aload_n 0, 1) := by decide +kernel
theorem d1_1 : decode jdk_42_method_3_code 1 = .ok (.aload_n 1, 1) := by decide +kernel
theorem d1_2 : decode jdk_42_method_3_code 2 = .ok (.iconst 0, 1) := by decide +kernel
theorem d1_3 : decode jdk_42_method_3_code 3 = .ok (.aload_n 1, 1) := by decide +kernel
theorem d1_4 : decode jdk_42_method_3_code 4 = .ok (.arraylength, 1) := by decide +kernel
theorem d1_5 : decode jdk_42_method_3_code 5 = .ok (.aconst_null, 1) := by decide +kernel
theorem d1_6 : decode jdk_42_method_3_code 6 = .ok (.invokespecial 27, 3) := by decide +kernel
theorem d1_9 : decode jdk_42_method_3_code 9 = .ok (.return_, 1) := by decide +kernel
theorem pf_rmi1 : plainFor (⟨"java/lang/String", "<init>", "([C)V"⟩ : MethodName) = true := by decide +kernel
theorem pd_7 : parseMethodDescriptor "([CIILjava/lang/Void;)V" = some ⟨[(.array .char), .int, .int, (.object "java/lang/Void")], none⟩ := by decide +kernel
theorem ef_rmi1 (m : MethodId) (x0 : Addr) (x1 : Addr) : entryFrame m #[(.ref x0), (.ref x1)] 2 = mkF m 0 #[.val (.ref x0), .val (.ref x1)] [] := by first | (simp [entryFrame, mkF, argsToLocals, Value.category]; done) | rfl
def Q_rmi1 (Z : State) (a1 : Addr) (a2 : Addr) (u1 : Value) (u2 : Value) (k1 : ClassId) (c0 c1 cs : Int32) (h0 : Heap) (n0 : Nat) (v : Option Value) (h : Heap) (L : List Loc) : Prop := v = none ∧ Fr n0 L ∧ Keep h0 h [a1]
set_option maxRecDepth 65536 in
set_option maxHeartbeats 40000000 in
theorem rmi1 (l : Launch) (Z : State) (a0 : Array Value) (hw : ∀ d ∈ tables_1, d.before a0 Z = true) (ws : List Jvm.Cond) (a1 : Addr) (a2 : Addr) (u1 : Value) (u2 : Value) (k1 : ClassId) (c0 c1 cs : Int32) (h0 : Heap) (n0 : Nat) (Z0 : n0 ≤ h0.size) (E_0 : Exa Z h0 a1 "java/lang/String") (F_00 : Fld Z h0 a1 "java/lang/String" "value" "[B" u1) (F_01 : Fld Z h0 a1 "java/lang/String" "coder" "B" u2) (n_a1 : n0 ≤ a1) (V_1 : Arv Z h0 a2 k1 .char (2 : Int32) [(.int c0), (.int c1)] (.int (0 : Int32))) (hc0 : ¬ ((255 : Int32) < c0)) (hc1 : ¬ ((255 : Int32) < c1)) (S_1 : Sta Z h0 "java/lang/String" "COMPACT_STRINGS" "Z" (.int cs)) (hcs : ¬ (cs = (0 : Int32))) (ne_21 : a2 ≠ a1) :
    MetFree l (⟨"java/lang/String", "<init>", "([C)V"⟩ : MethodName) (head1 (Jvm.Cond.code (⟨"java/lang/String", "<init>", "([C)V"⟩ : MethodName) jdk_42_method_3_code 2 none :: ws) ({ frames := 3, cells := 1, slots := 2, locals := 52 } : Room)) (fun a U => a = #[(.ref a1), (.ref a2)] ∧ Z.Warmed39 U.vm ∧ U.heap = h0) (fun _ _ _ _ _ => True) (fun _ U o U' => ∃ v L, o = .returned v ∧ Q_rmi1 Z a1 a2 u1 u2 k1 c0 c1 cs h0 n0 v U'.heap L ∧ FrameEnd U o U' L ({ frames := 3, cells := 1, slots := 2, locals := 52 } : Room).cells ({ frames := 3, cells := 1, slots := 2, locals := 52 } : Room).slots) := by
  refine MetFree.of_bodySF pf_rmi1 hisR ?_
  intro p e s m args below meth c s₁ Bd hml0 hP hK
  obtain ⟨rfl, hZ, hh⟩ := hP
  have hx := Bd.exec
  have hby := Bd.bytes
  have hml : c.maxLocals = 2 := hml0
  have hown : s.vm.findClass "java/lang/String" = some m.cls := findClass_of_methodNamed Bd.named
  have hnm := (name_of_methodNamed Bd.named Bd.method).1
  have X0 : Stand p l e ({ frames := 3, cells := 1, slots := 2, locals := 52 } : Room) s m #[(.ref a1), (.ref a2)] below meth c s₁ [] 0 0 := Stand.of_body Bd
  have e0 : s₁.heap = h0 := by rw [← hh, Bd.state]; rfl
  have N0 := Fr.nil n0
  have pre0 : ∀ t, Steps p.tables e below (s₁.setTop (mkF m 0 #[.val (.ref a1), .val (.ref a2)] [])) t → Steps p.tables e below (s₁.setTop (entryFrame m #[(.ref a1), (.ref a2)] 2)) t := fun t k => castTop (ef_rmi1 m a1 a2) k
  have R0 : ∀ t, Steps p.tables e below (s₁.setTop (mkF m 0 #[.val (.ref a1), .val (.ref a2)] [])) t → Steps p.tables e below (s₁.setTop (mkF m 0 #[.val (.ref a1), .val (.ref a2)] [])) t := fun _ k => k
  have R193 : ∀ t, Steps p.tables e below (s₁.setTop (mkF m 4 #[.val (.ref a1), .val (.ref a2)] [(.ref a2), (.int (0 : Int32)), (.ref a2), (.ref a1)])) t → Steps p.tables e below (s₁.setTop (mkF m 0 #[.val (.ref a1), .val (.ref a2)] [])) t := by
    intro t k
    refine R0 t ?_
    refine XS.aloadN X0.here hx rfl (hb hby d1_0) rfl rfl ?_
    refine XS.aloadN X0.here hx rfl (hb hby d1_1) rfl rfl ?_
    refine XS.iconst X0.here hx rfl (hb hby d1_2) ?_
    refine XS.aloadN X0.here hx rfl (hb hby d1_3) rfl rfl ?_
    exact k
  obtain ⟨cl194, Ar194, q194, Sz194, Nn194, Hh194, G194⟩ := id V_1
  have R195 : ∀ t, Steps p.tables e below (s₁.setTop (mkF m 5 #[.val (.ref a1), .val (.ref a2)] [(.int (2 : Int32)), (.int (0 : Int32)), (.ref a2), (.ref a1)])) t → Steps p.tables e below (s₁.setTop (mkF m 0 #[.val (.ref a1), .val (.ref a2)] [])) t := by
    intro t k
    refine R193 t ?_
    refine X0.arraylength hx (by rw [e0]; exact Ar194.1) (State.isArrayOf_alike hZ.alike Ar194.2.1) (g := (mkF m 4 #[.val (.ref a1), .val (.ref a2)] [(.ref a2), (.int (0 : Int32)), (.ref a2), (.ref a1)])) rfl rfl (hb hby d1_4) _ ?_
    rw [len_of Sz194 Nn194]
    exact k
  have R196 : ∀ t, Steps p.tables e below (s₁.setTop (mkF m 6 #[.val (.ref a1), .val (.ref a2)] [.null, (.int (2 : Int32)), (.int (0 : Int32)), (.ref a2), (.ref a1)])) t → Steps p.tables e below (s₁.setTop (mkF m 0 #[.val (.ref a1), .val (.ref a2)] [])) t := by
    intro t k
    refine R195 t ?_
    refine XS.aconstNull X0.here hx rfl (hb hby d1_5) ?_
    exact k
  obtain ⟨_, _, ⟨T197, L197, k197, n197⟩, -, X197, ⟨Lc197, hQ197, l197, y197, z197⟩, st197⟩ := X0.specialBack hx (y := (⟨"java/lang/String", "<init>", "([CIILjava/lang/Void;)V"⟩ : MethodName)) rfl hown (mvT hZ (hw _ (List.mem_of_getElem? (i := 7) rfl))) (mvT hZ (hw _ (List.mem_of_getElem? (i := 8) rfl))) (mvT hZ (hw _ (List.mem_of_getElem? (i := 10) rfl))) (by decide) (backOf (W := 0) (rmi5 l Z a0 hw [] a1 a2 u1 u2 k1 c0 c1 cs h0 n0 Z0 E_0 F_00 F_01 n_a1 V_1 hc0 hc1 S_1 hcs ne_21) hZ (hw _ (List.mem_of_getElem? (i := 10) rfl)) (hw _ (List.mem_of_getElem? (i := 2) rfl)) (by decide) (by decide)) (g := (mkF m 6 #[.val (.ref a1), .val (.ref a2)] [.null, (.int (2 : Int32)), (.int (0 : Int32)), (.ref a2), (.ref a1)])) rfl (by rw [hml]; rfl) (Steps.refl _) (a := a1) (argsL := [(.ref a2), (.int (0 : Int32)), (.int (2 : Int32)), .null]) (rest := []) (lenOf pd_7 rfl) rfl (by show 2 * 0 + _ ≤ _; exact Nat.le_of_eq rfl) (hb hby d1_6) (fun _ _ => ⟨rfl, e0, (by decide : 0 + 1 ≤ _), (by decide : 0 + 2 ≤ _)⟩)
  dsimp only [Pt.U, Pt.locs, Pt.cells, Pt.slots] at X197 l197 y197 z197 st197 hQ197
  subst l197 y197 z197
  obtain ⟨rfl, M197, J197⟩ := hQ197
  have Z197 : n0 ≤ T197.heap.size := Nat.le_trans Z0 J197.1
  have K197 : Keep h0 T197.heap [a1] := (Keep.refl h0 [a1]).trans J197 (allS (Or.inl (List.mem_of_getElem? (i := 0) rfl)) all0)
  have E_198 : Exa Z T197.heap a1 "java/lang/String" := E_0.keep J197
  have A_199 : Arv Z T197.heap a2 k1 .char (2 : Int32) [(.int c0), (.int c1)] (.int (0 : Int32)) := V_1.keep J197 (ninS ne_21 nin0)
  have S_200 : Sta Z T197.heap "java/lang/String" "COMPACT_STRINGS" "Z" (.int cs) := own_sta_keep S_1 J197 (allS (own_exa_st E_0) all0)
  have N197 := Fr.app N0 M197
  have R201 : ∀ t, Steps p.tables e below (T197.setTop (mkF m 9 #[.val (.ref a1), .val (.ref a2)] [])) t → Steps p.tables e below (s₁.setTop (mkF m 0 #[.val (.ref a1), .val (.ref a2)] [])) t := fun t k => R196 t (st197.trans k)
  obtain ⟨fs, hr, hrun, hended, hW, hsame⟩ := X197.leave (v := none) (fun _ => rfl)
  refine ⟨_, _, pre0 _ (R201 _ (X197.returnOut hx Bd.returns (hb hby d1_9) hr)), hrun, hended, _, _, rfl, ?_, ⟨_, rfl⟩, hW, hsame.mono (by decide) (by decide)⟩
  show Q_rmi1 Z a1 a2 u1 u2 k1 c0 c1 cs h0 n0 _ T197.heap _
  exact ⟨rfl, N197, K197⟩
theorem own_wS {Z : State} {a0 : Array Value} (hw : ∀ d ∈ tables_1, d.before a0 Z = true) : ∀ a ∈ Bundle.stringAtoms, a.before a0 Z = true := by
  intro d hd
  simp only [Bundle.stringAtoms, List.mem_cons, List.not_mem_nil, or_false] at hd
  rcases hd with rfl | rfl | rfl | rfl | rfl | rfl | rfl
  · exact hw _ (List.mem_of_getElem? (i := 2) rfl)
  · exact hw _ (List.mem_of_getElem? (i := 1) rfl)
  · exact hw _ (List.mem_of_getElem? (i := 15) rfl)
  · exact hw _ (List.mem_of_getElem? (i := 16) rfl)
  · exact hw _ (List.mem_of_getElem? (i := 17) rfl)
  · exact hw _ (List.mem_of_getElem? (i := 18) rfl)
  · exact hw _ (List.mem_of_getElem? (i := 19) rfl)
theorem d2_8 : decode jdk_42_method_149_code 8 = .ok (.aload_n 0, 1) := by decide +kernel
theorem d2_9 : decode jdk_42_method_149_code 9 = .ok (.ldc 7, 2) := by decide +kernel
theorem d2_11 : decode jdk_42_method_149_code 11 = .ok (.getfield 9, 3) := by decide +kernel
theorem d2_14 : decode jdk_42_method_149_code 14 = .ok (.putfield 9, 3) := by decide +kernel
theorem d2_17 : decode jdk_42_method_149_code 17 = .ok (.aload_n 0, 1) := by decide +kernel
theorem d2_18 : decode jdk_42_method_149_code 18 = .ok (.ldc 7, 2) := by decide +kernel
theorem d2_20 : decode jdk_42_method_149_code 20 = .ok (.getfield 15, 3) := by decide +kernel
theorem d2_23 : decode jdk_42_method_149_code 23 = .ok (.putfield 15, 3) := by decide +kernel
theorem d2_26 : decode jdk_42_method_149_code 26 = .ok (.return_, 1) := by decide +kernel
theorem pf_rmi5z : plainFor (⟨"java/lang/String", "<init>", "([CIILjava/lang/Void;)V"⟩ : MethodName) = true := by decide +kernel
theorem ef_rmi5z (m : MethodId) (x0 : Addr) (x1 : Addr) (x2 : Int32) (x3 : Int32) : entryFrame m #[(.ref x0), (.ref x1), (.int x2), (.int x3), .null] 6 = mkF m 0 #[.val (.ref x0), .val (.ref x1), .val (.int x2), .val (.int x3), .val .null, .unset] [] := by first | (simp [entryFrame, mkF, argsToLocals, Value.category]; done) | rfl
def Q_rmi5z (Z : State) (a1 : Addr) (a2 : Addr) (u1 : Value) (u2 : Value) (h0 : Heap) (n0 : Nat) (v : Option Value) (h : Heap) (L : List Loc) : Prop := v = none ∧ Fr n0 L ∧ Keep h0 h [a1]
set_option maxRecDepth 65536 in
set_option maxHeartbeats 40000000 in
theorem rmi5z (l : Launch) (Z : State) (a0 : Array Value) (hw : ∀ d ∈ tables_1, d.before a0 Z = true) (ws : List Jvm.Cond) (a1 : Addr) (a2 : Addr) (u1 : Value) (u2 : Value) (h0 : Heap) (n0 : Nat) (Z0 : n0 ≤ h0.size) (E_0 : Exa Z h0 a1 "java/lang/String") (F_00 : Fld Z h0 a1 "java/lang/String" "value" "[B" u1) (F_01 : Fld Z h0 a1 "java/lang/String" "coder" "B" u2) (n_a1 : n0 ≤ a1) (O_0 : Ext Z.heap h0) (hheld : Jvm.Lit.constHeld Z "java/lang/String" 7) (hcw : Jvm.Lit.compactW.before a0 Z = true) :
    MetFree l (⟨"java/lang/String", "<init>", "([CIILjava/lang/Void;)V"⟩ : MethodName) (head1 (Jvm.Cond.code (⟨"java/lang/String", "<init>", "([CIILjava/lang/Void;)V"⟩ : MethodName) jdk_42_method_149_code 6 none :: ws) ({ frames := 1, cells := 2, slots := 4, locals := 12 } : Room)) (fun a U => a = #[(.ref a1), (.ref a2), (.int (0 : Int32)), (.int (0 : Int32)), .null] ∧ Z.Warmed39 U.vm ∧ U.heap = h0 ∧ U.vm.interned = Z.vm.interned) (fun _ _ _ _ _ => True) (fun _ U o U' => ∃ v L, o = .returned v ∧ Q_rmi5z Z a1 a2 u1 u2 h0 n0 v U'.heap L ∧ ReturnedEndW U o U' L ({ frames := 1, cells := 2, slots := 4, locals := 12 } : Room).cells ({ frames := 1, cells := 2, slots := 4, locals := 12 } : Room).slots) := by
  refine MetFree.of_bodySF pf_rmi5z hisR ?_
  intro p e s m args below meth c s₁ Bd hml0 hP hK
  obtain ⟨rfl, hZ, hh, hint⟩ := hP
  have hx := Bd.exec
  have hby := Bd.bytes
  have hml : c.maxLocals = 6 := hml0
  have hown : s.vm.findClass "java/lang/String" = some m.cls := findClass_of_methodNamed Bd.named
  have hnm := (name_of_methodNamed Bd.named Bd.method).1
  have X0 : Stand p l e ({ frames := 1, cells := 2, slots := 4, locals := 12 } : Room) s m #[(.ref a1), (.ref a2), (.int (0 : Int32)), (.int (0 : Int32)), .null] below meth c s₁ [] 0 0 := Stand.of_body Bd
  have e0 : s₁.heap = h0 := by rw [← hh, Bd.state]; rfl
  have N0 := Fr.nil n0
  have pre0 : ∀ t, Steps p.tables e below (s₁.setTop (mkF m 0 #[.val (.ref a1), .val (.ref a2), .val (.int (0 : Int32)), .val (.int (0 : Int32)), .val .null, .unset] [])) t → Steps p.tables e below (s₁.setTop (entryFrame m #[(.ref a1), (.ref a2), (.int (0 : Int32)), (.int (0 : Int32)), .null] 6)) t := fun t k => castTop (ef_rmi5z m a1 a2 (0 : Int32) (0 : Int32)) k
  have R0 : ∀ t, Steps p.tables e below (s₁.setTop (mkF m 0 #[.val (.ref a1), .val (.ref a2), .val (.int (0 : Int32)), .val (.int (0 : Int32)), .val .null, .unset] [])) t → Steps p.tables e below (s₁.setTop (mkF m 0 #[.val (.ref a1), .val (.ref a2), .val (.int (0 : Int32)), .val (.int (0 : Int32)), .val .null, .unset] [])) t := fun _ k => k
  have R202 : ∀ t, Steps p.tables e below (s₁.setTop (mkF m 1 #[.val (.ref a1), .val (.ref a2), .val (.int (0 : Int32)), .val (.int (0 : Int32)), .val .null, .unset] [(.ref a1)])) t → Steps p.tables e below (s₁.setTop (mkF m 0 #[.val (.ref a1), .val (.ref a2), .val (.int (0 : Int32)), .val (.int (0 : Int32)), .val .null, .unset] [])) t := by
    intro t k
    refine R0 t ?_
    refine XS.aloadN X0.here hx rfl (hb hby d2_0) rfl rfl ?_
    exact k
  obtain ⟨T203, X203, e203, st203⟩ := initO X0 hx hZ hown (hw _ (List.mem_of_getElem? (i := 11) rfl)) (hw _ (List.mem_of_getElem? (i := 12) rfl)) (hw _ (List.mem_of_getElem? (i := 13) rfl)) e0 (g := (mkF m 1 #[.val (.ref a1), .val (.ref a2), .val (.int (0 : Int32)), .val (.int (0 : Int32)), .val .null, .unset] [(.ref a1)])) rfl (by rw [hml]; rfl) rfl (hb hby d2_1) (by decide) (W := 0) (by show 2 * 0 + _ ≤ _; exact Nat.le_of_eq rfl) (by decide)
  have R204 : ∀ t, Steps p.tables e below (T203.setTop (mkF m 4 #[.val (.ref a1), .val (.ref a2), .val (.int (0 : Int32)), .val (.int (0 : Int32)), .val .null, .unset] [])) t → Steps p.tables e below (s₁.setTop (mkF m 0 #[.val (.ref a1), .val (.ref a2), .val (.int (0 : Int32)), .val (.int (0 : Int32)), .val .null, .unset] [])) t := fun t k => R202 t (st203 _ k)
  have R205 : ∀ t, Steps p.tables e below (T203.setTop (mkF m 5 #[.val (.ref a1), .val (.ref a2), .val (.int (0 : Int32)), .val (.int (0 : Int32)), .val .null, .unset] [(.int (0 : Int32))])) t → Steps p.tables e below (s₁.setTop (mkF m 0 #[.val (.ref a1), .val (.ref a2), .val (.int (0 : Int32)), .val (.int (0 : Int32)), .val .null, .unset] [])) t := by
    intro t k
    refine R204 t ?_
    refine XS.iloadN X203.here hx rfl (hb hby d2_4) rfl ?_
    exact k
  have R206 : ∀ t, Steps p.tables e below (T203.setTop (mkF m 8 #[.val (.ref a1), .val (.ref a2), .val (.int (0 : Int32)), .val (.int (0 : Int32)), .val .null, .unset] [])) t → Steps p.tables e below (s₁.setTop (mkF m 0 #[.val (.ref a1), .val (.ref a2), .val (.int (0 : Int32)), .val (.int (0 : Int32)), .val .null, .unset] [])) t := by
    intro t k
    refine R205 t ?_
    refine XS.ifNo X203.here hx rfl (hb hby d2_5) rfl ((if0 _ _).trans (teq rfl).2) ?_
    exact k
  have R207 : ∀ t, Steps p.tables e below (T203.setTop (mkF m 9 #[.val (.ref a1), .val (.ref a2), .val (.int (0 : Int32)), .val (.int (0 : Int32)), .val .null, .unset] [(.ref a1)])) t → Steps p.tables e below (s₁.setTop (mkF m 0 #[.val (.ref a1), .val (.ref a2), .val (.int (0 : Int32)), .val (.int (0 : Int32)), .val .null, .unset] [])) t := by
    intro t k
    refine R206 t ?_
    refine XS.aloadN X203.here hx rfl (hb hby d2_8) rfl rfl ?_
    exact k
  have hS208 : s.Since s.vm 0 := (State.WarmedH.refl s).since 0
  have IB208 : IB Z s.vm [] := ⟨#[], by rw [hint]; simp, fun q hq => by simp at hq⟩
  obtain ⟨sl, T208, h208, k208, bl, kb208, X208, e208, x208, hS208, hk208, hZ208, ho208, Es208, Fc208, Fv208, Vb208, -, -, -, Li208, st208⟩ := ldcSVL (s := s) (vm0 := s.vm) (text := "") X203 hx hZ hown (hw _ (List.mem_of_getElem? (i := 14) rfl)) (own_wS hw) e203 hS208 (Nat.zero_le _) (Fr.nil _) (fun b cl q => by rw [hh]; exact O_0.2 b cl q) IB208 (by simp) hheld hcw (vs := []) (z := (0 : Int32)) ⟨by simp, rfl⟩ (by decide) (by decide) (g := (mkF m 9 #[.val (.ref a1), .val (.ref a2), .val (.int (0 : Int32)), .val (.int (0 : Int32)), .val .null, .unset] [(.ref a1)])) rfl (hb hby d2_9) (n := 0) (by decide) (by decide) (by decide) (by decide)
  have Z208 : n0 ≤ h208.size := Nat.le_trans Z0 x208.1
  have K208 : Keep h0 h208 [a1] := (Keep.refl h0 [a1]).ext x208
  have E_209 : Exa Z h208 a1 "java/lang/String" := E_0.ext x208
  have F_210 : Fld Z h208 a1 "java/lang/String" "value" "[B" u1 := F_00.ext x208
  have F_211 : Fld Z h208 a1 "java/lang/String" "coder" "B" u2 := F_01.ext x208
  have R212 : ∀ t, Steps p.tables e below (T208.setTop (mkF m 11 #[.val (.ref a1), .val (.ref a2), .val (.int (0 : Int32)), .val (.int (0 : Int32)), .val .null, .unset] [(.ref sl), (.ref a1)])) t → Steps p.tables e below (s₁.setTop (mkF m 0 #[.val (.ref a1), .val (.ref a2), .val (.int (0 : Int32)), .val (.int (0 : Int32)), .val .null, .unset] [])) t := fun t k => R207 t (st208 _ k)
  obtain ⟨T213, X213, e213, st213⟩ := getF X208 hx hZ208 ho208 (host := "") (Or.inl (hw _ (List.mem_of_getElem? (i := 20) rfl))) Via.refl e208 Fv208 (g := (mkF m 11 #[.val (.ref a1), .val (.ref a2), .val (.int (0 : Int32)), .val (.int (0 : Int32)), .val .null, .unset] [(.ref sl), (.ref a1)])) rfl rfl (hb hby d2_11)
  have R214 : ∀ t, Steps p.tables e below (T213.setTop (mkF m 14 #[.val (.ref a1), .val (.ref a2), .val (.int (0 : Int32)), .val (.int (0 : Int32)), .val .null, .unset] [(.ref bl), (.ref a1)])) t → Steps p.tables e below (s₁.setTop (mkF m 0 #[.val (.ref a1), .val (.ref a2), .val (.int (0 : Int32)), .val (.int (0 : Int32)), .val .null, .unset] [])) t := fun t k => R212 t (st213 _ k)
  obtain ⟨T215, h215, X215, e215, W215, st215⟩ := putF X213 hx hZ208 ho208 (host := "") (Or.inl (hw _ (List.mem_of_getElem? (i := 20) rfl))) Via.refl e213 F_210 E_209 (Or.inr ⟨(hw _ (List.mem_of_getElem? (i := 16) rfl)), rfl, hnm⟩) (hw _ (List.mem_of_getElem? (i := 1) rfl)) (ty := (.array .byte)) (by decide) rfl rfl (g := (mkF m 14 #[.val (.ref a1), .val (.ref a2), .val (.int (0 : Int32)), .val (.int (0 : Int32)), .val .null, .unset] [(.ref bl), (.ref a1)])) rfl rfl (hb hby d2_14)
  have N215 := Fr.snoc X215 N0 n_a1
  have Z215 : n0 ≤ h215.size := Nat.le_trans Z208 (Keep.of_wr W215).1
  have Y215 : k208 ≤ h215.size := Nat.le_trans hk208 (Keep.of_wr W215).1
  have K215 : Keep h0 h215 [a1] := K208.wr W215 (Or.inl (List.mem_of_getElem? (i := 0) rfl))
  have E_216 : Exa Z h215 a1 "java/lang/String" := E_209.wr W215
  have F_217 : Fld Z h215 a1 "java/lang/String" "value" "[B" (.ref bl) := F_210.same W215
  have F_218 : Fld Z h215 a1 "java/lang/String" "coder" "B" u2 := F_211.other W215 (Or.inr (slot_ne (Or.inr (hw _ (List.mem_of_getElem? (i := 17) rfl))) (Or.inr (hw _ (List.mem_of_getElem? (i := 16) rfl))) (by decide) (t := .byte) (t' := (.array .byte)) (by decide) (by decide)))
  have E_219 : Exa Z h215 sl "java/lang/String" := Es208.wr W215
  have F_220 : Fld Z h215 sl "java/lang/String" "coder" "B" (.int (0 : Int32)) := Fc208.other W215 (Or.inr (slot_ne (Or.inr (hw _ (List.mem_of_getElem? (i := 17) rfl))) (Or.inr (hw _ (List.mem_of_getElem? (i := 16) rfl))) (by decide) (t := .byte) (t' := (.array .byte)) (by decide) (by decide)))
  have R221 : ∀ t, Steps p.tables e below (T215.setTop (mkF m 17 #[.val (.ref a1), .val (.ref a2), .val (.int (0 : Int32)), .val (.int (0 : Int32)), .val .null, .unset] [])) t → Steps p.tables e below (s₁.setTop (mkF m 0 #[.val (.ref a1), .val (.ref a2), .val (.int (0 : Int32)), .val (.int (0 : Int32)), .val .null, .unset] [])) t := fun t k => R214 t (st215 _ k)
  have R222 : ∀ t, Steps p.tables e below (T215.setTop (mkF m 18 #[.val (.ref a1), .val (.ref a2), .val (.int (0 : Int32)), .val (.int (0 : Int32)), .val .null, .unset] [(.ref a1)])) t → Steps p.tables e below (s₁.setTop (mkF m 0 #[.val (.ref a1), .val (.ref a2), .val (.int (0 : Int32)), .val (.int (0 : Int32)), .val .null, .unset] [])) t := by
    intro t k
    refine R221 t ?_
    refine XS.aloadN X215.here hx rfl (hb hby d2_17) rfl rfl ?_
    exact k
  have R223 : ∀ t, Steps p.tables e below (T215.setTop (mkF m 20 #[.val (.ref a1), .val (.ref a2), .val (.int (0 : Int32)), .val (.int (0 : Int32)), .val .null, .unset] [(.ref sl), (.ref a1)])) t → Steps p.tables e below (s₁.setTop (mkF m 0 #[.val (.ref a1), .val (.ref a2), .val (.int (0 : Int32)), .val (.int (0 : Int32)), .val .null, .unset] [])) t := by
    intro t k
    refine R222 t ?_
    refine ldcAgain (s := s) (vm0 := T208.vm) X215 hx hZ208 ho208 (hw _ (List.mem_of_getElem? (i := 14) rfl)) Li208 (g := (mkF m 18 #[.val (.ref a1), .val (.ref a2), .val (.int (0 : Int32)), .val (.int (0 : Int32)), .val .null, .unset] [(.ref a1)])) rfl (hb hby d2_18) _ ?_
    exact k
  obtain ⟨T224, X224, e224, st224⟩ := getF X215 hx hZ208 ho208 (host := "") (Or.inl (hw _ (List.mem_of_getElem? (i := 21) rfl))) Via.refl e215 F_220 (g := (mkF m 20 #[.val (.ref a1), .val (.ref a2), .val (.int (0 : Int32)), .val (.int (0 : Int32)), .val .null, .unset] [(.ref sl), (.ref a1)])) rfl rfl (hb hby d2_20)
  have R225 : ∀ t, Steps p.tables e below (T224.setTop (mkF m 23 #[.val (.ref a1), .val (.ref a2), .val (.int (0 : Int32)), .val (.int (0 : Int32)), .val .null, .unset] [(.int (0 : Int32)), (.ref a1)])) t → Steps p.tables e below (s₁.setTop (mkF m 0 #[.val (.ref a1), .val (.ref a2), .val (.int (0 : Int32)), .val (.int (0 : Int32)), .val .null, .unset] [])) t := fun t k => R223 t (st224 _ k)
  obtain ⟨T226, h226, X226, e226, W226, st226⟩ := putF X224 hx hZ208 ho208 (host := "") (Or.inl (hw _ (List.mem_of_getElem? (i := 21) rfl))) Via.refl e224 F_218 E_216 (Or.inr ⟨(hw _ (List.mem_of_getElem? (i := 17) rfl)), rfl, hnm⟩) (hw _ (List.mem_of_getElem? (i := 1) rfl)) (ty := .byte) (by decide) rfl rfl (g := (mkF m 23 #[.val (.ref a1), .val (.ref a2), .val (.int (0 : Int32)), .val (.int (0 : Int32)), .val .null, .unset] [(.int (0 : Int32)), (.ref a1)])) rfl rfl (hb hby d2_23)
  have N226 := Fr.snoc X226 N215 n_a1
  have Z226 : n0 ≤ h226.size := Nat.le_trans Z215 (Keep.of_wr W226).1
  have Y226 : k208 ≤ h226.size := Nat.le_trans Y215 (Keep.of_wr W226).1
  have K226 : Keep h0 h226 [a1] := K215.wr W226 (Or.inl (List.mem_of_getElem? (i := 0) rfl))
  have E_227 : Exa Z h226 a1 "java/lang/String" := E_216.wr W226
  have F_228 : Fld Z h226 a1 "java/lang/String" "value" "[B" (.ref bl) := F_217.other W226 (Or.inr (slot_ne (Or.inr (hw _ (List.mem_of_getElem? (i := 16) rfl))) (Or.inr (hw _ (List.mem_of_getElem? (i := 17) rfl))) (by decide) (t := (.array .byte)) (t' := .byte) (by decide) (by decide)))
  have F_229 : Fld Z h226 a1 "java/lang/String" "coder" "B" (.int (0 : Int32)) := F_218.same W226
  have E_230 : Exa Z h226 sl "java/lang/String" := E_219.wr W226
  have R231 : ∀ t, Steps p.tables e below (T226.setTop (mkF m 26 #[.val (.ref a1), .val (.ref a2), .val (.int (0 : Int32)), .val (.int (0 : Int32)), .val .null, .unset] [])) t → Steps p.tables e below (s₁.setTop (mkF m 0 #[.val (.ref a1), .val (.ref a2), .val (.int (0 : Int32)), .val (.int (0 : Int32)), .val .null, .unset] [])) t := fun t k => R225 t (st226 _ k)
  obtain ⟨fs, hr, hrun, hended, hv1, hv2, hv3, hv4⟩ := X226.leaveW hS208 (by rw [show T226.heap = h226 from e226]; exact Y226) (v := none) (fun _ => rfl)
  refine ⟨_, _, pre0 _ (R231 _ (X226.returnOut hx Bd.returns (hb hby d2_26) hr)), hrun, hended, _, _, rfl, ?_, hv1, hv2, hv3, hv4.mono (by decide) (by decide)⟩
  show Q_rmi5z Z a1 a2 u1 u2 h0 n0 _ T226.heap _
  rw [e226]
  exact ⟨rfl, N226, K226⟩
theorem pf_rmi1z : plainFor (⟨"java/lang/String", "<init>", "([C)V"⟩ : MethodName) = true := by decide +kernel
theorem ef_rmi1z (m : MethodId) (x0 : Addr) (x1 : Addr) : entryFrame m #[(.ref x0), (.ref x1)] 2 = mkF m 0 #[.val (.ref x0), .val (.ref x1)] [] := by first | (simp [entryFrame, mkF, argsToLocals, Value.category]; done) | rfl
def Q_rmi1z (Z : State) (a1 : Addr) (a2 : Addr) (u1 : Value) (u2 : Value) (k1 : ClassId) (h0 : Heap) (n0 : Nat) (v : Option Value) (h : Heap) (L : List Loc) : Prop := v = none ∧ Fr n0 L ∧ Keep h0 h [a1]
set_option maxRecDepth 65536 in
set_option maxHeartbeats 40000000 in
theorem rmi1z (l : Launch) (Z : State) (a0 : Array Value) (hw : ∀ d ∈ tables_1, d.before a0 Z = true) (ws : List Jvm.Cond) (a1 : Addr) (a2 : Addr) (u1 : Value) (u2 : Value) (k1 : ClassId) (h0 : Heap) (n0 : Nat) (Z0 : n0 ≤ h0.size) (E_0 : Exa Z h0 a1 "java/lang/String") (F_00 : Fld Z h0 a1 "java/lang/String" "value" "[B" u1) (F_01 : Fld Z h0 a1 "java/lang/String" "coder" "B" u2) (n_a1 : n0 ≤ a1) (V_1 : Arv Z h0 a2 k1 .char (0 : Int32) [] (.int (0 : Int32))) (ne_21 : a2 ≠ a1) (O_0 : Ext Z.heap h0) (hheld : Jvm.Lit.constHeld Z "java/lang/String" 7) (hcw : Jvm.Lit.compactW.before a0 Z = true) :
    MetFree l (⟨"java/lang/String", "<init>", "([C)V"⟩ : MethodName) (head1 (Jvm.Cond.code (⟨"java/lang/String", "<init>", "([C)V"⟩ : MethodName) jdk_42_method_3_code 2 none :: ws) ({ frames := 2, cells := 2, slots := 4, locals := 29 } : Room)) (fun a U => a = #[(.ref a1), (.ref a2)] ∧ Z.Warmed39 U.vm ∧ U.heap = h0 ∧ U.vm.interned = Z.vm.interned) (fun _ _ _ _ _ => True) (fun _ U o U' => ∃ v L, o = .returned v ∧ Q_rmi1z Z a1 a2 u1 u2 k1 h0 n0 v U'.heap L ∧ ReturnedEndW U o U' L ({ frames := 2, cells := 2, slots := 4, locals := 29 } : Room).cells ({ frames := 2, cells := 2, slots := 4, locals := 29 } : Room).slots) := by
  refine MetFree.of_bodySF pf_rmi1z hisR ?_
  intro p e s m args below meth c s₁ Bd hml0 hP hK
  obtain ⟨rfl, hZ, hh, hint⟩ := hP
  have hx := Bd.exec
  have hby := Bd.bytes
  have hml : c.maxLocals = 2 := hml0
  have hown : s.vm.findClass "java/lang/String" = some m.cls := findClass_of_methodNamed Bd.named
  have hnm := (name_of_methodNamed Bd.named Bd.method).1
  have X0 : Stand p l e ({ frames := 2, cells := 2, slots := 4, locals := 29 } : Room) s m #[(.ref a1), (.ref a2)] below meth c s₁ [] 0 0 := Stand.of_body Bd
  have e0 : s₁.heap = h0 := by rw [← hh, Bd.state]; rfl
  have N0 := Fr.nil n0
  have pre0 : ∀ t, Steps p.tables e below (s₁.setTop (mkF m 0 #[.val (.ref a1), .val (.ref a2)] [])) t → Steps p.tables e below (s₁.setTop (entryFrame m #[(.ref a1), (.ref a2)] 2)) t := fun t k => castTop (ef_rmi1z m a1 a2) k
  have R0 : ∀ t, Steps p.tables e below (s₁.setTop (mkF m 0 #[.val (.ref a1), .val (.ref a2)] [])) t → Steps p.tables e below (s₁.setTop (mkF m 0 #[.val (.ref a1), .val (.ref a2)] [])) t := fun _ k => k
  have R232 : ∀ t, Steps p.tables e below (s₁.setTop (mkF m 4 #[.val (.ref a1), .val (.ref a2)] [(.ref a2), (.int (0 : Int32)), (.ref a2), (.ref a1)])) t → Steps p.tables e below (s₁.setTop (mkF m 0 #[.val (.ref a1), .val (.ref a2)] [])) t := by
    intro t k
    refine R0 t ?_
    refine XS.aloadN X0.here hx rfl (hb hby d1_0) rfl rfl ?_
    refine XS.aloadN X0.here hx rfl (hb hby d1_1) rfl rfl ?_
    refine XS.iconst X0.here hx rfl (hb hby d1_2) ?_
    refine XS.aloadN X0.here hx rfl (hb hby d1_3) rfl rfl ?_
    exact k
  obtain ⟨cl233, Ar233, q233, Sz233, Nn233, Hh233, G233⟩ := id V_1
  have R234 : ∀ t, Steps p.tables e below (s₁.setTop (mkF m 5 #[.val (.ref a1), .val (.ref a2)] [(.int (0 : Int32)), (.int (0 : Int32)), (.ref a2), (.ref a1)])) t → Steps p.tables e below (s₁.setTop (mkF m 0 #[.val (.ref a1), .val (.ref a2)] [])) t := by
    intro t k
    refine R232 t ?_
    refine X0.arraylength hx (by rw [e0]; exact Ar233.1) (State.isArrayOf_alike hZ.alike Ar233.2.1) (g := (mkF m 4 #[.val (.ref a1), .val (.ref a2)] [(.ref a2), (.int (0 : Int32)), (.ref a2), (.ref a1)])) rfl rfl (hb hby d1_4) _ ?_
    rw [len_of Sz233 Nn233]
    exact k
  have R235 : ∀ t, Steps p.tables e below (s₁.setTop (mkF m 6 #[.val (.ref a1), .val (.ref a2)] [.null, (.int (0 : Int32)), (.int (0 : Int32)), (.ref a2), (.ref a1)])) t → Steps p.tables e below (s₁.setTop (mkF m 0 #[.val (.ref a1), .val (.ref a2)] [])) t := by
    intro t k
    refine R234 t ?_
    refine XS.aconstNull X0.here hx rfl (hb hby d1_5) ?_
    exact k
  obtain ⟨_, _, ⟨T236, L236, k236, n236⟩, -, X236, hS236, hg236, ⟨Lc236, hQ236, l236, y236, z236⟩, st236⟩ := X0.specialBackS hx (y := (⟨"java/lang/String", "<init>", "([CIILjava/lang/Void;)V"⟩ : MethodName)) rfl hown (mvT hZ (hw _ (List.mem_of_getElem? (i := 7) rfl))) (mvT hZ (hw _ (List.mem_of_getElem? (i := 8) rfl))) (mvT hZ (hw _ (List.mem_of_getElem? (i := 10) rfl))) (by decide) (own_backS (W := 0) (rmi5z l Z a0 hw [] a1 a2 u1 u2 h0 n0 Z0 E_0 F_00 F_01 n_a1 O_0 hheld hcw) hZ hint (hw _ (List.mem_of_getElem? (i := 10) rfl)) (hw _ (List.mem_of_getElem? (i := 2) rfl)) (by decide) (by decide)) (g := (mkF m 6 #[.val (.ref a1), .val (.ref a2)] [.null, (.int (0 : Int32)), (.int (0 : Int32)), (.ref a2), (.ref a1)])) rfl (by rw [hml]; rfl) (Steps.refl _) (a := a1) (argsL := [(.ref a2), (.int (0 : Int32)), (.int (0 : Int32)), .null]) (rest := []) (lenOf pd_7 rfl) rfl (by show 2 * 0 + _ ≤ _; exact Nat.le_of_eq rfl) (hb hby d1_6) (fun _ _ => ⟨rfl, e0, (by decide : 0 + 2 ≤ _), (by decide : 0 + 4 ≤ _)⟩)
  dsimp only [Pt.U, Pt.locs, Pt.cells, Pt.slots] at X236 l236 y236 z236 st236 hQ236
  subst l236 y236 z236
  have hZ236 : Z.Warmed39 (s.setVm T236.vm).vm := State.Warmed39.trans (t := s) hZ hS236.1
  have ho236 : (s.setVm T236.vm).vm.findClass "java/lang/String" = some m.cls := by rw [show (s.setVm T236.vm).vm = T236.vm from rfl, hS236.1.alike.findClass]; exact hown
  obtain ⟨rfl, M236, J236⟩ := hQ236
  have Z236 : n0 ≤ T236.heap.size := Nat.le_trans Z0 J236.1
  have K236 : Keep h0 T236.heap [a1] := (Keep.refl h0 [a1]).trans J236 (allS (Or.inl (List.mem_of_getElem? (i := 0) rfl)) all0)
  have E_237 : Exa Z T236.heap a1 "java/lang/String" := E_0.keep J236
  have A_238 : Arv Z T236.heap a2 k1 .char (0 : Int32) [] (.int (0 : Int32)) := V_1.keep J236 (ninS ne_21 nin0)
  have N236 := Fr.app N0 M236
  have R239 : ∀ t, Steps p.tables e below (T236.setTop (mkF m 9 #[.val (.ref a1), .val (.ref a2)] [])) t → Steps p.tables e below (s₁.setTop (mkF m 0 #[.val (.ref a1), .val (.ref a2)] [])) t := fun t k => R235 t (st236.trans k)
  obtain ⟨fs, hr, hrun, hended, hv1, hv2, hv3, hv4⟩ := X236.leaveW hS236 (by rw [show T236.heap = T236.heap from rfl]; exact (Nat.le_refl _)) (v := none) (fun _ => rfl)
  refine ⟨_, _, pre0 _ (R239 _ (X236.returnOut hx Bd.returns (hb hby d1_9) hr)), hrun, hended, _, _, rfl, ?_, hv1, hv2, hv3, hv4.mono (by decide) (by decide)⟩
  show Q_rmi1z Z a1 a2 u1 u2 k1 h0 n0 _ T236.heap _
  exact ⟨rfl, N236, K236⟩
theorem own_k (p1 : Int32) : (p1 &&& (3 : Int32)) = (0 : Int32) ∨ (p1 &&& (3 : Int32)) = (1 : Int32) ∨ (p1 &&& (3 : Int32)) = (2 : Int32) ∨ (p1 &&& (3 : Int32)) = (3 : Int32) := by
  have h : (p1 &&& (3 : Int32)).toBitVec.toNat < 4 := by
    rw [Int32.toBitVec_and, BitVec.toNat_and]
    exact Nat.lt_of_le_of_lt Nat.and_le_right (by decide)
  generalize (p1 &&& (3 : Int32)) = z at h
  have e : z = Int32.ofNat z.toBitVec.toNat := by
    apply Int32.toBitVec_inj.mp; apply BitVec.eq_of_toNat_eq
    show _ = (BitVec.ofNat 32 z.toBitVec.toNat).toNat
    rw [BitVec.toNat_ofNat, Nat.mod_eq_of_lt (by omega)]
  have h4 : z.toBitVec.toNat = 0 ∨ z.toBitVec.toNat = 1 ∨ z.toBitVec.toNat = 2 ∨ z.toBitVec.toNat = 3 := by omega
  rcases h4 with h | h | h | h <;> rw [h] at e <;> rw [e] <;> decide
def own_ch (p : Int32) : Int32 := nar .char ((p &&& (255 : Int32)).toUInt32.toUInt16.toUInt32.toInt32)
theorem own_chle (p : Int32) : ¬ ((255 : Int32) < own_ch p) := by
  have h0 : (p &&& (255 : Int32)).toBitVec.toNat < 256 := by
    rw [Int32.toBitVec_and, BitVec.toNat_and]
    exact Nat.lt_of_le_of_lt Nat.and_le_right (by decide)
  unfold own_ch
  generalize (p &&& (255 : Int32)) = z at h0
  have e : z = Int32.ofNat z.toBitVec.toNat := by
    apply Int32.toBitVec_inj.mp; apply BitVec.eq_of_toNat_eq
    show _ = (BitVec.ofNat 32 z.toBitVec.toNat).toNat
    rw [BitVec.toNat_ofNat, Nat.mod_eq_of_lt (by omega)]
  rw [e]
  generalize z.toBitVec.toNat = n at h0
  have key : ∀ n : Nat, n < 256 → ¬ ((255 : Int32) < nar .char ((Int32.ofNat n).toUInt32.toUInt16.toUInt32.toInt32)) := by decide +kernel
  exact key n h0
theorem pn_3 : plainName "com/example/underwright/underwright/eligibility/FactOfPinLaw" = true := by first | (simp [plainName, overriddenIn]; done) | decide +kernel
theorem pd_8 : parseMethodDescriptor "(I)Ljava/lang/Integer;" = some ⟨[.int], some (.object "java/lang/Integer")⟩ := by decide +kernel
theorem pd_9 : parseMethodDescriptor "(Ljava/lang/Object;)Lcom/example/underwright/underwright/eligibility/Fact;" = some ⟨[(.object "java/lang/Object")], some (.object "com/example/underwright/underwright/eligibility/Fact")⟩ := by decide +kernel
theorem pd_10 : parseMethodDescriptor "()Ljava/lang/Object;" = some ⟨[], some (.object "java/lang/Object")⟩ := by decide +kernel
theorem pd_11 : parseMethodDescriptor "()Lcom/example/underwright/underwright/eligibility/Unknown;" = some ⟨[], some (.object "com/example/underwright/underwright/eligibility/Unknown")⟩ := by decide +kernel
theorem pd_12 : parseMethodDescriptor "()Z" = some ⟨[], some .boolean⟩ := by decide +kernel
theorem pd_13 : parseMethodDescriptor "(J)Ljava/lang/Long;" = some ⟨[.long], some (.object "java/lang/Long")⟩ := by decide +kernel
theorem pd_14 : parseMethodDescriptor "([C)V" = some ⟨[(.array .char)], none⟩ := by decide +kernel
theorem ef_rm0 (m : MethodId) (x0 : Int32) (x1 : Int64) (x2 : Int32) (x3 : Int32) (x4 : Int32) : entryFrame m #[(.int x0), (.long x1), (.int x2), (.int x3), (.int x4)] maxLocals = mkF m 0 #[.val (.int x0), .val (.long x1), .second, .val (.int x2), .val (.int x3), .val (.int x4), .unset, .unset, .unset] [] := by first | (simp [entryFrame, mkF, argsToLocals, Value.category, maxLocals]; done) | rfl
def Q_rm0 (Z : State) (p1 : Int32) (q2 : Int64) (p3 : Int32) (p4 : Int32) (p5 : Int32) (cs : Int32) (ci : Addr) (cli : Cell) (cj : Addr) (clj : Cell) (h0 : Heap) (n0 : Nat) (v : Option Value) (h : Heap) (L : List Loc) : Prop := v = some (.int (1 : Int32)) ∧ Fr n0 L
set_option maxRecDepth 65536 in
set_option maxHeartbeats 40000000 in
theorem rm0 (l : Launch) (Z : State) (a0 : Array Value) (hw : ∀ d ∈ tables_1, d.before a0 Z = true) (ws : List Jvm.Cond) (p1 : Int32) (q2 : Int64) (p3 : Int32) (p4 : Int32) (p5 : Int32) (cs : Int32) (ci : Addr) (cli : Cell) (cj : Addr) (clj : Cell) (h0 : Heap) (n0 : Nat) (Z0 : n0 ≤ h0.size) (S_1 : Sta Z h0 "java/lang/String" "COMPACT_STRINGS" "Z" (.int cs)) (hcs : ¬ (cs = (0 : Int32))) (S_2 : Sta Z h0 "java/lang/Integer$IntegerCache" "high" "I" (.int (127 : Int32))) (S_3 : Sta Z h0 "java/lang/Integer$IntegerCache" "cache" "[Ljava/lang/Integer;" (.ref ci)) (A_1 : Arr Z h0 ci cli (.object "java/lang/Integer")) (z_1 : cli.slots.size = 256) (el_1 : ∀ i, i < 256 → ∃ r : Addr, cli.slots[i]? = some (.ref r)) (S_4 : Sta Z h0 "java/lang/Long$LongCache" "cache" "[Ljava/lang/Long;" (.ref cj)) (A_2 : Arr Z h0 cj clj (.object "java/lang/Long")) (z_2 : clj.slots.size = 256) (el_2 : ∀ i, i < 256 → ∃ r : Addr, clj.slots[i]? = some (.ref r)) (O_0 : Ext Z.heap h0) (hheld : Jvm.Lit.constHeld Z "java/lang/String" 7) (hcw : Jvm.Lit.compactW.before a0 Z = true) :
    MetFree l x (head1 (Jvm.Cond.code x code maxLocals ret :: ws) room_1) (fun a U => a = #[(.int p1), (.long q2), (.int p3), (.int p4), (.int p5)] ∧ Z.Warmed39 U.vm ∧ U.heap = h0 ∧ U.vm.interned = Z.vm.interned) (fun _ _ _ _ _ => True) (fun _ U o U' => ∃ v L, o = .returned v ∧ Q_rm0 Z p1 q2 p3 p4 p5 cs ci cli cj clj h0 n0 v U'.heap L ∧ ReturnedEndW U o U' L room_1.cells room_1.slots) := by
  refine MetFree.of_bodySF (plainFor_of_name pn_3) hisR ?_
  intro p e s m args below meth c s₁ Bd hml0 hP hK
  obtain ⟨rfl, hZ, hh, hint⟩ := hP
  have hx := Bd.exec
  have hby := Bd.bytes
  have hml : c.maxLocals = 9 := hml0
  have hown : s.vm.findClass "com/example/underwright/underwright/eligibility/FactOfPinLaw" = some m.cls := findClass_of_methodNamed Bd.named
  have hnm := (name_of_methodNamed Bd.named Bd.method).1
  have X0 : Stand p l e room_1 s m #[(.int p1), (.long q2), (.int p3), (.int p4), (.int p5)] below meth c s₁ [] 0 0 := Stand.of_body Bd
  have e0 : s₁.heap = h0 := by rw [← hh, Bd.state]; rfl
  have N0 := Fr.nil n0
  have pre0 : ∀ t, Steps p.tables e below (s₁.setTop (mkF m 0 #[.val (.int p1), .val (.long q2), .second, .val (.int p3), .val (.int p4), .val (.int p5), .unset, .unset, .unset] [])) t → Steps p.tables e below (s₁.setTop (entryFrame m #[(.int p1), (.long q2), (.int p3), (.int p4), (.int p5)] maxLocals)) t := fun t k => castTop (ef_rm0 m p1 q2 p3 p4 p5) k
  have R0 : ∀ t, Steps p.tables e below (s₁.setTop (mkF m 0 #[.val (.int p1), .val (.long q2), .second, .val (.int p3), .val (.int p4), .val (.int p5), .unset, .unset, .unset] [])) t → Steps p.tables e below (s₁.setTop (mkF m 0 #[.val (.int p1), .val (.long q2), .second, .val (.int p3), .val (.int p4), .val (.int p5), .unset, .unset, .unset] [])) t := fun _ k => k
  have R240 : ∀ t, Steps p.tables e below (s₁.setTop (mkF m 6 #[.val (.int p1), .val (.long q2), .second, .val (.int p3), .val (.int p4), .val (.int p5), .unset, .val (.int (p5 &&& (3 : Int32))), .unset] [])) t → Steps p.tables e below (s₁.setTop (mkF m 0 #[.val (.int p1), .val (.long q2), .second, .val (.int p3), .val (.int p4), .val (.int p5), .unset, .unset, .unset] [])) t := by
    intro t k
    refine R0 t ?_
    refine XS.iload X0.here hx rfl (hb hby at_0) rfl ?_
    refine XS.iconst X0.here hx rfl (hb hby at_2) ?_
    refine XS.iand X0.here hx rfl (hb hby at_3) rfl ?_
    refine XS.istore X0.here hx rfl (hb hby at_4) rfl (l' := #[.val (.int p1), .val (.long q2), .second, .val (.int p3), .val (.int p4), .val (.int p5), .unset, .val (.int (p5 &&& (3 : Int32))), .unset]) rfl ?_
    exact k
  obtain ⟨kk, h_kk⟩ : ∃ z : Int32, z = (p5 &&& (3 : Int32)) := ⟨_, rfl⟩
  have R241 : ∀ t, Steps p.tables e below (s₁.setTop (mkF m 6 #[.val (.int p1), .val (.long q2), .second, .val (.int p3), .val (.int p4), .val (.int p5), .unset, .val (.int kk), .unset] [])) t → Steps p.tables e below (s₁.setTop (mkF m 0 #[.val (.int p1), .val (.long q2), .second, .val (.int p3), .val (.int p4), .val (.int p5), .unset, .unset, .unset] [])) t := by rw [h_kk]; exact R240
  have hkk : kk = (0 : Int32) ∨ kk = (1 : Int32) ∨ kk = (2 : Int32) ∨ kk = (3 : Int32) := by rw [h_kk]; exact own_k p5
  rcases hkk with rfl | rfl | rfl | rfl
  · have R242 : ∀ t, Steps p.tables e below (s₁.setTop (mkF m 8 #[.val (.int p1), .val (.long q2), .second, .val (.int p3), .val (.int p4), .val (.int p5), .unset, .val (.int (0 : Int32)), .unset] [(.int (0 : Int32))])) t → Steps p.tables e below (s₁.setTop (mkF m 0 #[.val (.int p1), .val (.long q2), .second, .val (.int p3), .val (.int p4), .val (.int p5), .unset, .unset, .unset] [])) t := by
      intro t k
      refine R241 t ?_
      refine XS.iload X0.here hx rfl (hb hby at_6) rfl ?_
      exact k
    have R243 : ∀ t, Steps p.tables e below (s₁.setTop (mkF m 11 #[.val (.int p1), .val (.long q2), .second, .val (.int p3), .val (.int p4), .val (.int p5), .unset, .val (.int (0 : Int32)), .unset] [])) t → Steps p.tables e below (s₁.setTop (mkF m 0 #[.val (.int p1), .val (.long q2), .second, .val (.int p3), .val (.int p4), .val (.int p5), .unset, .unset, .unset] [])) t := by
      intro t k
      refine R242 t ?_
      refine XS.ifNo X0.here hx rfl (hb hby at_8) rfl ((if0 _ _).trans (teq rfl).2) ?_
      exact k
    have R244 : ∀ t, Steps p.tables e below (s₁.setTop (mkF m 12 #[.val (.int p1), .val (.long q2), .second, .val (.int p3), .val (.int p4), .val (.int p5), .unset, .val (.int (0 : Int32)), .unset] [(.int p1)])) t → Steps p.tables e below (s₁.setTop (mkF m 0 #[.val (.int p1), .val (.long q2), .second, .val (.int p3), .val (.int p4), .val (.int p5), .unset, .unset, .unset] [])) t := by
      intro t k
      refine R243 t ?_
      refine XS.iloadN X0.here hx rfl (hb hby at_11) rfl ?_
      exact k
    obtain ⟨_, _, ⟨T245, L245, k245, n245⟩, -, X245, ⟨Lc245, hQ245, l245, y245, z245⟩, st245⟩ := Jvm.LawKit.callS X0 hx (y := (⟨"java/lang/Integer", "valueOf", "(I)Ljava/lang/Integer;"⟩ : MethodName)) hown (mvT hZ (hw _ (List.mem_of_getElem? (i := 75) rfl))) (mvT hZ (hw _ (List.mem_of_getElem? (i := 76) rfl))) (mvT hZ (hw _ (List.mem_of_getElem? (i := 77) rfl))) (mvT hZ (hw _ (List.mem_of_getElem? (i := 78) rfl))) (by decide) (backOf (W := 0) (rm14 l Z a0 hw [] p1 ci cli h0 n0 Z0 S_2 S_3 A_1 z_1 el_1) hZ (hw _ (List.mem_of_getElem? (i := 78) rfl)) (hw _ (List.mem_of_getElem? (i := 77) rfl)) (by decide) (by decide)) (g := (mkF m 12 #[.val (.int p1), .val (.long q2), .second, .val (.int p3), .val (.int p4), .val (.int p5), .unset, .val (.int (0 : Int32)), .unset] [(.int p1)])) rfl (by rw [hml]; rfl) (argsL := [(.int p1)]) (rest := []) (lenOf pd_8 rfl) rfl (by show 2 * 0 + _ ≤ _; exact Nat.le_of_eq rfl) (hb hby at_12) (fun _ _ => ⟨rfl, e0, (by decide : 0 + 1 ≤ _), (by decide : 0 + 1 ≤ _)⟩)
    dsimp only [Pt.U, Pt.locs, Pt.cells, Pt.slots] at X245 l245 y245 z245 st245 hQ245
    subst l245 y245 z245
    obtain ⟨vv, rfl, M245, J245⟩ := hQ245
    have Z245 : n0 ≤ T245.heap.size := Nat.le_trans Z0 J245.1
    have Y245 : 0 ≤ T245.heap.size := Nat.le_trans (Nat.zero_le _) J245.1
    have S_246 : Sta Z T245.heap "java/lang/String" "COMPACT_STRINGS" "Z" (.int cs) := own_sta_keep S_1 J245 all0
    have N245 := Fr.app N0 M245
    have R247 : ∀ t, Steps p.tables e below (T245.setTop (mkF m 15 #[.val (.int p1), .val (.long q2), .second, .val (.int p3), .val (.int p4), .val (.int p5), .unset, .val (.int (0 : Int32)), .unset] [(.ref vv)])) t → Steps p.tables e below (s₁.setTop (mkF m 0 #[.val (.int p1), .val (.long q2), .second, .val (.int p3), .val (.int p4), .val (.int p5), .unset, .unset, .unset] [])) t := fun t k => R244 t (st245 _ k)
    have R248 : ∀ t, Steps p.tables e below (T245.setTop (mkF m 95 #[.val (.int p1), .val (.long q2), .second, .val (.int p3), .val (.int p4), .val (.int p5), .val (.ref vv), .val (.int (0 : Int32)), .unset] [(.ref vv)])) t → Steps p.tables e below (s₁.setTop (mkF m 0 #[.val (.int p1), .val (.long q2), .second, .val (.int p3), .val (.int p4), .val (.int p5), .unset, .unset, .unset] [])) t := by
      intro t k
      refine R247 t ?_
      refine XS.astore X245.here hx rfl (hb hby at_15) rfl rfl (l' := #[.val (.int p1), .val (.long q2), .second, .val (.int p3), .val (.int p4), .val (.int p5), .val (.ref vv), .val (.int (0 : Int32)), .unset]) rfl ?_
      refine XS.goto X245.here hx rfl (pc0 := 17) (pc' := 93) rfl (hb hby at_17) (by decide) (by decide) ?_
      refine XS.aload X245.here hx rfl (hb hby at_93) rfl rfl ?_
      exact k
    obtain ⟨_, _, ⟨T249, L249, k249, n249⟩, -, X249, ⟨Lc249, hQ249, l249, y249, z249⟩, st249⟩ := Jvm.LawKit.callS X245 hx (y := (⟨"com/example/underwright/underwright/eligibility/Fact", "of", "(Ljava/lang/Object;)Lcom/example/underwright/underwright/eligibility/Fact;"⟩ : MethodName)) hown (mvT hZ (hw _ (List.mem_of_getElem? (i := 22) rfl))) (mvT hZ (hw _ (List.mem_of_getElem? (i := 23) rfl))) (mvT hZ (hw _ (List.mem_of_getElem? (i := 24) rfl))) (mvT hZ (hw _ (List.mem_of_getElem? (i := 25) rfl))) (by decide) (backOf (W := 0) (rm4 l Z a0 hw [] vv  T245.heap n0 Z245 ) hZ (hw _ (List.mem_of_getElem? (i := 25) rfl)) (hw _ (List.mem_of_getElem? (i := 24) rfl)) (by decide) (by decide)) (g := (mkF m 95 #[.val (.int p1), .val (.long q2), .second, .val (.int p3), .val (.int p4), .val (.int p5), .val (.ref vv), .val (.int (0 : Int32)), .unset] [(.ref vv)])) rfl (by rw [hml]; rfl) (argsL := [(.ref vv)]) (rest := []) (lenOf pd_9 rfl) rfl (by show 2 * 0 + _ ≤ _; exact Nat.le_of_eq rfl) (hb hby at_95) (fun _ _ => ⟨rfl, rfl, (by decide : 1 + 1 ≤ _), (by decide : 1 + 2 ≤ _)⟩)
    dsimp only [Pt.U, Pt.locs, Pt.cells, Pt.slots] at X249 l249 y249 z249 st249 hQ249
    subst l249 y249 z249
    obtain ⟨f1, rfl, M249, J249, zf249, Eo249, Fa249, Fb249⟩ := hQ249
    have Z249 : n0 ≤ T249.heap.size := Nat.le_trans Z245 J249.1
    have Y249 : 0 ≤ T249.heap.size := Nat.le_trans Y245 J249.1
    have n_f1 : n0 ≤ f1 := Nat.le_trans Z245 zf249
    have N249 := Fr.app N245 M249
    have R250 : ∀ t, Steps p.tables e below (T249.setTop (mkF m 98 #[.val (.int p1), .val (.long q2), .second, .val (.int p3), .val (.int p4), .val (.int p5), .val (.ref vv), .val (.int (0 : Int32)), .unset] [(.ref f1)])) t → Steps p.tables e below (s₁.setTop (mkF m 0 #[.val (.int p1), .val (.long q2), .second, .val (.int p3), .val (.int p4), .val (.int p5), .unset, .unset, .unset] [])) t := fun t k => R248 t (st249 _ k)
    have R251 : ∀ t, Steps p.tables e below (T249.setTop (mkF m 102 #[.val (.int p1), .val (.long q2), .second, .val (.int p3), .val (.int p4), .val (.int p5), .val (.ref vv), .val (.int (0 : Int32)), .val (.ref f1)] [(.ref f1)])) t → Steps p.tables e below (s₁.setTop (mkF m 0 #[.val (.int p1), .val (.long q2), .second, .val (.int p3), .val (.int p4), .val (.int p5), .unset, .unset, .unset] [])) t := by
      intro t k
      refine R250 t ?_
      refine XS.astore X249.here hx rfl (hb hby at_98) rfl rfl (l' := #[.val (.int p1), .val (.long q2), .second, .val (.int p3), .val (.int p4), .val (.int p5), .val (.ref vv), .val (.int (0 : Int32)), .val (.ref f1)]) rfl ?_
      refine XS.aload X249.here hx rfl (hb hby at_100) rfl rfl ?_
      exact k
    obtain ⟨_, _, q253a, q253b, q253c⟩ := isOf hZ rfl Eo249
    obtain ⟨_, _, ⟨T252, L252, k252, n252⟩, -, X252, ⟨Lc252, hQ252, l252, y252, z252⟩, st252⟩ := X249.virtualBack hx (y := (⟨"com/example/underwright/underwright/eligibility/Fact", "value", "()Ljava/lang/Object;"⟩ : MethodName)) (z := (⟨"com/example/underwright/underwright/eligibility/Fact", "value", "()Ljava/lang/Object;"⟩ : MethodName)) hown (mvT hZ (hw _ (List.mem_of_getElem? (i := 41) rfl))) (mvT hZ (hw _ (List.mem_of_getElem? (i := 42) rfl))) (notFace_of_selects (args := #[]) (mvT hZ (hw _ (List.mem_of_getElem? (i := 44) rfl)))) (mvT hZ (hw _ (List.mem_of_getElem? (i := 44) rfl))) (mvT hZ (hw _ (List.mem_of_getElem? (i := 43) rfl))) (by decide) (backOf (W := 0) (rm7 l Z a0 hw [] f1 vv T249.heap n0 Z249 Fa249) hZ (hw _ (List.mem_of_getElem? (i := 45) rfl)) (hw _ (List.mem_of_getElem? (i := 24) rfl)) (by decide) (by decide)) q253a q253c (g := (mkF m 102 #[.val (.int p1), .val (.long q2), .second, .val (.int p3), .val (.int p4), .val (.int p5), .val (.ref vv), .val (.int (0 : Int32)), .val (.ref f1)] [(.ref f1)])) rfl (by rw [hml]; rfl) (Steps.refl _) (argsL := []) (rest := []) (lenOf pd_10 rfl) rfl (by show 2 * 0 + _ ≤ _; exact Nat.le_of_eq rfl) (hb hby at_102) (fun _ _ => ⟨rfl, rfl, (by decide : 2 + 0 ≤ _), (by decide : 3 + 0 ≤ _)⟩)
    dsimp only [Pt.U, Pt.locs, Pt.cells, Pt.slots] at X252 l252 y252 z252 st252 hQ252
    subst l252 y252 z252
    obtain ⟨rfl, M252, e252⟩ := hQ252
    have N252 := Fr.app N249 M252
    have R254 : ∀ t, Steps p.tables e below (T252.setTop (mkF m 105 #[.val (.int p1), .val (.long q2), .second, .val (.int p3), .val (.int p4), .val (.int p5), .val (.ref vv), .val (.int (0 : Int32)), .val (.ref f1)] [(.ref vv)])) t → Steps p.tables e below (s₁.setTop (mkF m 0 #[.val (.int p1), .val (.long q2), .second, .val (.int p3), .val (.int p4), .val (.int p5), .unset, .unset, .unset] [])) t := fun t k => R251 t (st252.trans k)
    have R255 : ∀ t, Steps p.tables e below (T252.setTop (mkF m 107 #[.val (.int p1), .val (.long q2), .second, .val (.int p3), .val (.int p4), .val (.int p5), .val (.ref vv), .val (.int (0 : Int32)), .val (.ref f1)] [(.ref vv), (.ref vv)])) t → Steps p.tables e below (s₁.setTop (mkF m 0 #[.val (.int p1), .val (.long q2), .second, .val (.int p3), .val (.int p4), .val (.int p5), .unset, .unset, .unset] [])) t := by
      intro t k
      refine R254 t ?_
      refine XS.aload X252.here hx rfl (hb hby at_105) rfl rfl ?_
      exact k
    have R256 : ∀ t, Steps p.tables e below (T252.setTop (mkF m 110 #[.val (.int p1), .val (.long q2), .second, .val (.int p3), .val (.int p4), .val (.int p5), .val (.ref vv), .val (.int (0 : Int32)), .val (.ref f1)] [])) t → Steps p.tables e below (s₁.setTop (mkF m 0 #[.val (.int p1), .val (.long q2), .second, .val (.int p3), .val (.int p4), .val (.int p5), .unset, .unset, .unset] [])) t := by
      intro t k
      refine R255 t ?_
      refine Jvm.RoadKit.acmp (g := (mkF m 107 #[.val (.int p1), .val (.long q2), .second, .val (.int p3), .val (.int p4), .val (.int p5), .val (.ref vv), .val (.int (0 : Int32)), .val (.ref f1)] [(.ref vv), (.ref vv)])) X252 hx rfl rfl rfl (pc0 := 107) (pc' := 110) (same := true) rfl (hb hby at_107) rfl (decide_eq_true (congrArg Value.ref (rfl))) (by decide) (by decide) ?_
      exact k
    have R257 : ∀ t, Steps p.tables e below (T252.setTop (mkF m 112 #[.val (.int p1), .val (.long q2), .second, .val (.int p3), .val (.int p4), .val (.int p5), .val (.ref vv), .val (.int (0 : Int32)), .val (.ref f1)] [(.ref f1)])) t → Steps p.tables e below (s₁.setTop (mkF m 0 #[.val (.int p1), .val (.long q2), .second, .val (.int p3), .val (.int p4), .val (.int p5), .unset, .unset, .unset] [])) t := by
      intro t k
      refine R256 t ?_
      refine XS.aload X252.here hx rfl (hb hby at_110) rfl rfl ?_
      exact k
    obtain ⟨_, _, q259a, q259b, q259c⟩ := isOf hZ e252 Eo249
    obtain ⟨_, _, ⟨T258, L258, k258, n258⟩, -, X258, ⟨Lc258, hQ258, l258, y258, z258⟩, st258⟩ := X252.virtualBack hx (y := (⟨"com/example/underwright/underwright/eligibility/Fact", "unknown", "()Lcom/example/underwright/underwright/eligibility/Unknown;"⟩ : MethodName)) (z := (⟨"com/example/underwright/underwright/eligibility/Fact", "unknown", "()Lcom/example/underwright/underwright/eligibility/Unknown;"⟩ : MethodName)) hown (mvT hZ (hw _ (List.mem_of_getElem? (i := 46) rfl))) (mvT hZ (hw _ (List.mem_of_getElem? (i := 47) rfl))) (notFace_of_selects (args := #[]) (mvT hZ (hw _ (List.mem_of_getElem? (i := 49) rfl)))) (mvT hZ (hw _ (List.mem_of_getElem? (i := 49) rfl))) (mvT hZ (hw _ (List.mem_of_getElem? (i := 48) rfl))) (by decide) (backOf (W := 0) (rm8 l Z a0 hw [] f1  T249.heap n0 Z249 Fb249) hZ (hw _ (List.mem_of_getElem? (i := 50) rfl)) (hw _ (List.mem_of_getElem? (i := 24) rfl)) (by decide) (by decide)) q259a q259c (g := (mkF m 112 #[.val (.int p1), .val (.long q2), .second, .val (.int p3), .val (.int p4), .val (.int p5), .val (.ref vv), .val (.int (0 : Int32)), .val (.ref f1)] [(.ref f1)])) rfl (by rw [hml]; rfl) (Steps.refl _) (argsL := []) (rest := []) (lenOf pd_11 rfl) rfl (by show 2 * 0 + _ ≤ _; exact Nat.le_of_eq rfl) (hb hby at_112) (fun _ _ => ⟨rfl, e252, (by decide : 2 + 0 ≤ _), (by decide : 3 + 0 ≤ _)⟩)
    dsimp only [Pt.U, Pt.locs, Pt.cells, Pt.slots] at X258 l258 y258 z258 st258 hQ258
    subst l258 y258 z258
    obtain ⟨rfl, M258, e258⟩ := hQ258
    have N258 := Fr.app N252 M258
    have R260 : ∀ t, Steps p.tables e below (T258.setTop (mkF m 115 #[.val (.int p1), .val (.long q2), .second, .val (.int p3), .val (.int p4), .val (.int p5), .val (.ref vv), .val (.int (0 : Int32)), .val (.ref f1)] [.null])) t → Steps p.tables e below (s₁.setTop (mkF m 0 #[.val (.int p1), .val (.long q2), .second, .val (.int p3), .val (.int p4), .val (.int p5), .unset, .unset, .unset] [])) t := fun t k => R257 t (st258.trans k)
    have R261 : ∀ t, Steps p.tables e below (T258.setTop (mkF m 118 #[.val (.int p1), .val (.long q2), .second, .val (.int p3), .val (.int p4), .val (.int p5), .val (.ref vv), .val (.int (0 : Int32)), .val (.ref f1)] [])) t → Steps p.tables e below (s₁.setTop (mkF m 0 #[.val (.int p1), .val (.long q2), .second, .val (.int p3), .val (.int p4), .val (.int p5), .unset, .unset, .unset] [])) t := by
      intro t k
      refine R260 t ?_
      refine XS.ifnonnullNo X258.here hx rfl (hb hby at_115) rfl ?_
      exact k
    have R262 : ∀ t, Steps p.tables e below (T258.setTop (mkF m 120 #[.val (.int p1), .val (.long q2), .second, .val (.int p3), .val (.int p4), .val (.int p5), .val (.ref vv), .val (.int (0 : Int32)), .val (.ref f1)] [(.ref f1)])) t → Steps p.tables e below (s₁.setTop (mkF m 0 #[.val (.int p1), .val (.long q2), .second, .val (.int p3), .val (.int p4), .val (.int p5), .unset, .unset, .unset] [])) t := by
      intro t k
      refine R261 t ?_
      refine XS.aload X258.here hx rfl (hb hby at_118) rfl rfl ?_
      exact k
    obtain ⟨_, _, q264a, q264b, q264c⟩ := isOf hZ e258 Eo249
    obtain ⟨_, _, ⟨T263, L263, k263, n263⟩, -, X263, ⟨Lc263, hQ263, l263, y263, z263⟩, st263⟩ := X258.virtualBack hx (y := (⟨"com/example/underwright/underwright/eligibility/Fact", "isKnown", "()Z"⟩ : MethodName)) (z := (⟨"com/example/underwright/underwright/eligibility/Fact", "isKnown", "()Z"⟩ : MethodName)) hown (mvT hZ (hw _ (List.mem_of_getElem? (i := 51) rfl))) (mvT hZ (hw _ (List.mem_of_getElem? (i := 52) rfl))) (notFace_of_selects (args := #[]) (mvT hZ (hw _ (List.mem_of_getElem? (i := 54) rfl)))) (mvT hZ (hw _ (List.mem_of_getElem? (i := 54) rfl))) (mvT hZ (hw _ (List.mem_of_getElem? (i := 53) rfl))) (by decide) (backOf (W := 0) (rm9 l Z a0 hw [] f1  T249.heap n0 Z249 Fb249) hZ (hw _ (List.mem_of_getElem? (i := 55) rfl)) (hw _ (List.mem_of_getElem? (i := 24) rfl)) (by decide) (by decide)) q264a q264c (g := (mkF m 120 #[.val (.int p1), .val (.long q2), .second, .val (.int p3), .val (.int p4), .val (.int p5), .val (.ref vv), .val (.int (0 : Int32)), .val (.ref f1)] [(.ref f1)])) rfl (by rw [hml]; rfl) (Steps.refl _) (argsL := []) (rest := []) (lenOf pd_12 rfl) rfl (by show 2 * 0 + _ ≤ _; exact Nat.le_of_eq rfl) (hb hby at_120) (fun _ _ => ⟨rfl, e258, (by decide : 2 + 0 ≤ _), (by decide : 3 + 0 ≤ _)⟩)
    dsimp only [Pt.U, Pt.locs, Pt.cells, Pt.slots] at X263 l263 y263 z263 st263 hQ263
    subst l263 y263 z263
    obtain ⟨rfl, M263, e263⟩ := hQ263
    have N263 := Fr.app N258 M263
    have R265 : ∀ t, Steps p.tables e below (T263.setTop (mkF m 123 #[.val (.int p1), .val (.long q2), .second, .val (.int p3), .val (.int p4), .val (.int p5), .val (.ref vv), .val (.int (0 : Int32)), .val (.ref f1)] [(.int (1 : Int32))])) t → Steps p.tables e below (s₁.setTop (mkF m 0 #[.val (.int p1), .val (.long q2), .second, .val (.int p3), .val (.int p4), .val (.int p5), .unset, .unset, .unset] [])) t := fun t k => R262 t (st263.trans k)
    have R266 : ∀ t, Steps p.tables e below (T263.setTop (mkF m 126 #[.val (.int p1), .val (.long q2), .second, .val (.int p3), .val (.int p4), .val (.int p5), .val (.ref vv), .val (.int (0 : Int32)), .val (.ref f1)] [])) t → Steps p.tables e below (s₁.setTop (mkF m 0 #[.val (.int p1), .val (.long q2), .second, .val (.int p3), .val (.int p4), .val (.int p5), .unset, .unset, .unset] [])) t := by
      intro t k
      refine R265 t ?_
      refine XS.ifNo X263.here hx rfl (hb hby at_123) rfl ((if0 _ _).trans (feq (by decide)).1) ?_
      exact k
    have R267 : ∀ t, Steps p.tables e below (T263.setTop (mkF m 131 #[.val (.int p1), .val (.long q2), .second, .val (.int p3), .val (.int p4), .val (.int p5), .val (.ref vv), .val (.int (0 : Int32)), .val (.ref f1)] [(.int (1 : Int32))])) t → Steps p.tables e below (s₁.setTop (mkF m 0 #[.val (.int p1), .val (.long q2), .second, .val (.int p3), .val (.int p4), .val (.int p5), .unset, .unset, .unset] [])) t := by
      intro t k
      refine R266 t ?_
      refine XS.iconst X263.here hx rfl (hb hby at_126) ?_
      refine XS.goto X263.here hx rfl (pc0 := 127) (pc' := 131) rfl (hb hby at_127) (by decide) (by decide) ?_
      exact k
    obtain ⟨fs, hr, hrun, hended, hv1, hv2, hv3, hv4⟩ := X263.leaveW (s := s) (vm₁ := s.vm) ((State.WarmedH.refl s).since 0) (by rw [show T263.heap = T249.heap from e263]; exact Y249) (v := some (.int (1 : Int32))) (fun h => by rw [Bd.returns] at h; cases h)
    refine ⟨_, _, pre0 _ (R267 _ (retN X263 hx (t := .boolean) Bd.returns (by simp) (hb hby at_131) hr)), hrun, hended, _, _, rfl, ?_, hv1, hv2, hv3, hv4.mono (by decide) (by decide)⟩
    show Q_rm0 Z p1 q2 p3 p4 p5 cs ci cli cj clj h0 n0 _ T263.heap _
    rw [e263]
    exact ⟨rfl, N263⟩
  · have R268 : ∀ t, Steps p.tables e below (s₁.setTop (mkF m 8 #[.val (.int p1), .val (.long q2), .second, .val (.int p3), .val (.int p4), .val (.int p5), .unset, .val (.int (1 : Int32)), .unset] [(.int (1 : Int32))])) t → Steps p.tables e below (s₁.setTop (mkF m 0 #[.val (.int p1), .val (.long q2), .second, .val (.int p3), .val (.int p4), .val (.int p5), .unset, .unset, .unset] [])) t := by
      intro t k
      refine R241 t ?_
      refine XS.iload X0.here hx rfl (hb hby at_6) rfl ?_
      exact k
    have R269 : ∀ t, Steps p.tables e below (s₁.setTop (mkF m 20 #[.val (.int p1), .val (.long q2), .second, .val (.int p3), .val (.int p4), .val (.int p5), .unset, .val (.int (1 : Int32)), .unset] [])) t → Steps p.tables e below (s₁.setTop (mkF m 0 #[.val (.int p1), .val (.long q2), .second, .val (.int p3), .val (.int p4), .val (.int p5), .unset, .unset, .unset] [])) t := by
      intro t k
      refine R268 t ?_
      refine XS.ifYes X0.here hx rfl (pc0 := 8) (pc' := 20) rfl (hb hby at_8) rfl ((if0 _ _).trans (feq (by decide)).2) (by decide) (by decide) ?_
      exact k
    have R270 : ∀ t, Steps p.tables e below (s₁.setTop (mkF m 23 #[.val (.int p1), .val (.long q2), .second, .val (.int p3), .val (.int p4), .val (.int p5), .unset, .val (.int (1 : Int32)), .unset] [(.int (1 : Int32)), (.int (1 : Int32))])) t → Steps p.tables e below (s₁.setTop (mkF m 0 #[.val (.int p1), .val (.long q2), .second, .val (.int p3), .val (.int p4), .val (.int p5), .unset, .unset, .unset] [])) t := by
      intro t k
      refine R269 t ?_
      refine XS.iload X0.here hx rfl (hb hby at_20) rfl ?_
      refine XS.iconst X0.here hx rfl (hb hby at_22) ?_
      exact k
    have R271 : ∀ t, Steps p.tables e below (s₁.setTop (mkF m 26 #[.val (.int p1), .val (.long q2), .second, .val (.int p3), .val (.int p4), .val (.int p5), .unset, .val (.int (1 : Int32)), .unset] [])) t → Steps p.tables e below (s₁.setTop (mkF m 0 #[.val (.int p1), .val (.long q2), .second, .val (.int p3), .val (.int p4), .val (.int p5), .unset, .unset, .unset] [])) t := by
      intro t k
      refine R270 t ?_
      refine XS.icmpNo X0.here hx rfl (hb hby at_23) rfl (teq rfl).2 ?_
      exact k
    have R272 : ∀ t, Steps p.tables e below (s₁.setTop (mkF m 27 #[.val (.int p1), .val (.long q2), .second, .val (.int p3), .val (.int p4), .val (.int p5), .unset, .val (.int (1 : Int32)), .unset] [(.long q2)])) t → Steps p.tables e below (s₁.setTop (mkF m 0 #[.val (.int p1), .val (.long q2), .second, .val (.int p3), .val (.int p4), .val (.int p5), .unset, .unset, .unset] [])) t := by
      intro t k
      refine R271 t ?_
      refine XS.lloadN X0.here hx rfl (hb hby at_26) rfl ?_
      exact k
    obtain ⟨_, _, ⟨T273, L273, k273, n273⟩, -, X273, ⟨Lc273, hQ273, l273, y273, z273⟩, st273⟩ := Jvm.LawKit.callS X0 hx (y := (⟨"java/lang/Long", "valueOf", "(J)Ljava/lang/Long;"⟩ : MethodName)) hown (mvT hZ (hw _ (List.mem_of_getElem? (i := 67) rfl))) (mvT hZ (hw _ (List.mem_of_getElem? (i := 68) rfl))) (mvT hZ (hw _ (List.mem_of_getElem? (i := 69) rfl))) (mvT hZ (hw _ (List.mem_of_getElem? (i := 70) rfl))) (by decide) (backOf (W := 0) (rm13 l Z a0 hw [] q2 cj clj h0 n0 Z0 S_4 A_2 z_2 el_2) hZ (hw _ (List.mem_of_getElem? (i := 70) rfl)) (hw _ (List.mem_of_getElem? (i := 69) rfl)) (by decide) (by decide)) (g := (mkF m 27 #[.val (.int p1), .val (.long q2), .second, .val (.int p3), .val (.int p4), .val (.int p5), .unset, .val (.int (1 : Int32)), .unset] [(.long q2)])) rfl (by rw [hml]; rfl) (argsL := [(.long q2)]) (rest := []) (lenOf pd_13 rfl) rfl (by show 2 * 0 + _ ≤ _; exact Nat.le_of_eq rfl) (hb hby at_27) (fun _ _ => ⟨rfl, e0, (by decide : 0 + 1 ≤ _), (by decide : 0 + 1 ≤ _)⟩)
    dsimp only [Pt.U, Pt.locs, Pt.cells, Pt.slots] at X273 l273 y273 z273 st273 hQ273
    subst l273 y273 z273
    obtain ⟨vv, rfl, M273, J273⟩ := hQ273
    have Z273 : n0 ≤ T273.heap.size := Nat.le_trans Z0 J273.1
    have Y273 : 0 ≤ T273.heap.size := Nat.le_trans (Nat.zero_le _) J273.1
    have S_274 : Sta Z T273.heap "java/lang/String" "COMPACT_STRINGS" "Z" (.int cs) := own_sta_keep S_1 J273 all0
    have N273 := Fr.app N0 M273
    have R275 : ∀ t, Steps p.tables e below (T273.setTop (mkF m 30 #[.val (.int p1), .val (.long q2), .second, .val (.int p3), .val (.int p4), .val (.int p5), .unset, .val (.int (1 : Int32)), .unset] [(.ref vv)])) t → Steps p.tables e below (s₁.setTop (mkF m 0 #[.val (.int p1), .val (.long q2), .second, .val (.int p3), .val (.int p4), .val (.int p5), .unset, .unset, .unset] [])) t := fun t k => R272 t (st273 _ k)
    have R276 : ∀ t, Steps p.tables e below (T273.setTop (mkF m 95 #[.val (.int p1), .val (.long q2), .second, .val (.int p3), .val (.int p4), .val (.int p5), .val (.ref vv), .val (.int (1 : Int32)), .unset] [(.ref vv)])) t → Steps p.tables e below (s₁.setTop (mkF m 0 #[.val (.int p1), .val (.long q2), .second, .val (.int p3), .val (.int p4), .val (.int p5), .unset, .unset, .unset] [])) t := by
      intro t k
      refine R275 t ?_
      refine XS.astore X273.here hx rfl (hb hby at_30) rfl rfl (l' := #[.val (.int p1), .val (.long q2), .second, .val (.int p3), .val (.int p4), .val (.int p5), .val (.ref vv), .val (.int (1 : Int32)), .unset]) rfl ?_
      refine XS.goto X273.here hx rfl (pc0 := 32) (pc' := 93) rfl (hb hby at_32) (by decide) (by decide) ?_
      refine XS.aload X273.here hx rfl (hb hby at_93) rfl rfl ?_
      exact k
    obtain ⟨_, _, ⟨T277, L277, k277, n277⟩, -, X277, ⟨Lc277, hQ277, l277, y277, z277⟩, st277⟩ := Jvm.LawKit.callS X273 hx (y := (⟨"com/example/underwright/underwright/eligibility/Fact", "of", "(Ljava/lang/Object;)Lcom/example/underwright/underwright/eligibility/Fact;"⟩ : MethodName)) hown (mvT hZ (hw _ (List.mem_of_getElem? (i := 22) rfl))) (mvT hZ (hw _ (List.mem_of_getElem? (i := 23) rfl))) (mvT hZ (hw _ (List.mem_of_getElem? (i := 24) rfl))) (mvT hZ (hw _ (List.mem_of_getElem? (i := 25) rfl))) (by decide) (backOf (W := 0) (rm4 l Z a0 hw [] vv  T273.heap n0 Z273 ) hZ (hw _ (List.mem_of_getElem? (i := 25) rfl)) (hw _ (List.mem_of_getElem? (i := 24) rfl)) (by decide) (by decide)) (g := (mkF m 95 #[.val (.int p1), .val (.long q2), .second, .val (.int p3), .val (.int p4), .val (.int p5), .val (.ref vv), .val (.int (1 : Int32)), .unset] [(.ref vv)])) rfl (by rw [hml]; rfl) (argsL := [(.ref vv)]) (rest := []) (lenOf pd_9 rfl) rfl (by show 2 * 0 + _ ≤ _; exact Nat.le_of_eq rfl) (hb hby at_95) (fun _ _ => ⟨rfl, rfl, (by decide : 1 + 1 ≤ _), (by decide : 1 + 2 ≤ _)⟩)
    dsimp only [Pt.U, Pt.locs, Pt.cells, Pt.slots] at X277 l277 y277 z277 st277 hQ277
    subst l277 y277 z277
    obtain ⟨f1, rfl, M277, J277, zf277, Eo277, Fa277, Fb277⟩ := hQ277
    have Z277 : n0 ≤ T277.heap.size := Nat.le_trans Z273 J277.1
    have Y277 : 0 ≤ T277.heap.size := Nat.le_trans Y273 J277.1
    have n_f1 : n0 ≤ f1 := Nat.le_trans Z273 zf277
    have N277 := Fr.app N273 M277
    have R278 : ∀ t, Steps p.tables e below (T277.setTop (mkF m 98 #[.val (.int p1), .val (.long q2), .second, .val (.int p3), .val (.int p4), .val (.int p5), .val (.ref vv), .val (.int (1 : Int32)), .unset] [(.ref f1)])) t → Steps p.tables e below (s₁.setTop (mkF m 0 #[.val (.int p1), .val (.long q2), .second, .val (.int p3), .val (.int p4), .val (.int p5), .unset, .unset, .unset] [])) t := fun t k => R276 t (st277 _ k)
    have R279 : ∀ t, Steps p.tables e below (T277.setTop (mkF m 102 #[.val (.int p1), .val (.long q2), .second, .val (.int p3), .val (.int p4), .val (.int p5), .val (.ref vv), .val (.int (1 : Int32)), .val (.ref f1)] [(.ref f1)])) t → Steps p.tables e below (s₁.setTop (mkF m 0 #[.val (.int p1), .val (.long q2), .second, .val (.int p3), .val (.int p4), .val (.int p5), .unset, .unset, .unset] [])) t := by
      intro t k
      refine R278 t ?_
      refine XS.astore X277.here hx rfl (hb hby at_98) rfl rfl (l' := #[.val (.int p1), .val (.long q2), .second, .val (.int p3), .val (.int p4), .val (.int p5), .val (.ref vv), .val (.int (1 : Int32)), .val (.ref f1)]) rfl ?_
      refine XS.aload X277.here hx rfl (hb hby at_100) rfl rfl ?_
      exact k
    obtain ⟨_, _, q281a, q281b, q281c⟩ := isOf hZ rfl Eo277
    obtain ⟨_, _, ⟨T280, L280, k280, n280⟩, -, X280, ⟨Lc280, hQ280, l280, y280, z280⟩, st280⟩ := X277.virtualBack hx (y := (⟨"com/example/underwright/underwright/eligibility/Fact", "value", "()Ljava/lang/Object;"⟩ : MethodName)) (z := (⟨"com/example/underwright/underwright/eligibility/Fact", "value", "()Ljava/lang/Object;"⟩ : MethodName)) hown (mvT hZ (hw _ (List.mem_of_getElem? (i := 41) rfl))) (mvT hZ (hw _ (List.mem_of_getElem? (i := 42) rfl))) (notFace_of_selects (args := #[]) (mvT hZ (hw _ (List.mem_of_getElem? (i := 44) rfl)))) (mvT hZ (hw _ (List.mem_of_getElem? (i := 44) rfl))) (mvT hZ (hw _ (List.mem_of_getElem? (i := 43) rfl))) (by decide) (backOf (W := 0) (rm7 l Z a0 hw [] f1 vv T277.heap n0 Z277 Fa277) hZ (hw _ (List.mem_of_getElem? (i := 45) rfl)) (hw _ (List.mem_of_getElem? (i := 24) rfl)) (by decide) (by decide)) q281a q281c (g := (mkF m 102 #[.val (.int p1), .val (.long q2), .second, .val (.int p3), .val (.int p4), .val (.int p5), .val (.ref vv), .val (.int (1 : Int32)), .val (.ref f1)] [(.ref f1)])) rfl (by rw [hml]; rfl) (Steps.refl _) (argsL := []) (rest := []) (lenOf pd_10 rfl) rfl (by show 2 * 0 + _ ≤ _; exact Nat.le_of_eq rfl) (hb hby at_102) (fun _ _ => ⟨rfl, rfl, (by decide : 2 + 0 ≤ _), (by decide : 3 + 0 ≤ _)⟩)
    dsimp only [Pt.U, Pt.locs, Pt.cells, Pt.slots] at X280 l280 y280 z280 st280 hQ280
    subst l280 y280 z280
    obtain ⟨rfl, M280, e280⟩ := hQ280
    have N280 := Fr.app N277 M280
    have R282 : ∀ t, Steps p.tables e below (T280.setTop (mkF m 105 #[.val (.int p1), .val (.long q2), .second, .val (.int p3), .val (.int p4), .val (.int p5), .val (.ref vv), .val (.int (1 : Int32)), .val (.ref f1)] [(.ref vv)])) t → Steps p.tables e below (s₁.setTop (mkF m 0 #[.val (.int p1), .val (.long q2), .second, .val (.int p3), .val (.int p4), .val (.int p5), .unset, .unset, .unset] [])) t := fun t k => R279 t (st280.trans k)
    have R283 : ∀ t, Steps p.tables e below (T280.setTop (mkF m 107 #[.val (.int p1), .val (.long q2), .second, .val (.int p3), .val (.int p4), .val (.int p5), .val (.ref vv), .val (.int (1 : Int32)), .val (.ref f1)] [(.ref vv), (.ref vv)])) t → Steps p.tables e below (s₁.setTop (mkF m 0 #[.val (.int p1), .val (.long q2), .second, .val (.int p3), .val (.int p4), .val (.int p5), .unset, .unset, .unset] [])) t := by
      intro t k
      refine R282 t ?_
      refine XS.aload X280.here hx rfl (hb hby at_105) rfl rfl ?_
      exact k
    have R284 : ∀ t, Steps p.tables e below (T280.setTop (mkF m 110 #[.val (.int p1), .val (.long q2), .second, .val (.int p3), .val (.int p4), .val (.int p5), .val (.ref vv), .val (.int (1 : Int32)), .val (.ref f1)] [])) t → Steps p.tables e below (s₁.setTop (mkF m 0 #[.val (.int p1), .val (.long q2), .second, .val (.int p3), .val (.int p4), .val (.int p5), .unset, .unset, .unset] [])) t := by
      intro t k
      refine R283 t ?_
      refine Jvm.RoadKit.acmp (g := (mkF m 107 #[.val (.int p1), .val (.long q2), .second, .val (.int p3), .val (.int p4), .val (.int p5), .val (.ref vv), .val (.int (1 : Int32)), .val (.ref f1)] [(.ref vv), (.ref vv)])) X280 hx rfl rfl rfl (pc0 := 107) (pc' := 110) (same := true) rfl (hb hby at_107) rfl (decide_eq_true (congrArg Value.ref (rfl))) (by decide) (by decide) ?_
      exact k
    have R285 : ∀ t, Steps p.tables e below (T280.setTop (mkF m 112 #[.val (.int p1), .val (.long q2), .second, .val (.int p3), .val (.int p4), .val (.int p5), .val (.ref vv), .val (.int (1 : Int32)), .val (.ref f1)] [(.ref f1)])) t → Steps p.tables e below (s₁.setTop (mkF m 0 #[.val (.int p1), .val (.long q2), .second, .val (.int p3), .val (.int p4), .val (.int p5), .unset, .unset, .unset] [])) t := by
      intro t k
      refine R284 t ?_
      refine XS.aload X280.here hx rfl (hb hby at_110) rfl rfl ?_
      exact k
    obtain ⟨_, _, q287a, q287b, q287c⟩ := isOf hZ e280 Eo277
    obtain ⟨_, _, ⟨T286, L286, k286, n286⟩, -, X286, ⟨Lc286, hQ286, l286, y286, z286⟩, st286⟩ := X280.virtualBack hx (y := (⟨"com/example/underwright/underwright/eligibility/Fact", "unknown", "()Lcom/example/underwright/underwright/eligibility/Unknown;"⟩ : MethodName)) (z := (⟨"com/example/underwright/underwright/eligibility/Fact", "unknown", "()Lcom/example/underwright/underwright/eligibility/Unknown;"⟩ : MethodName)) hown (mvT hZ (hw _ (List.mem_of_getElem? (i := 46) rfl))) (mvT hZ (hw _ (List.mem_of_getElem? (i := 47) rfl))) (notFace_of_selects (args := #[]) (mvT hZ (hw _ (List.mem_of_getElem? (i := 49) rfl)))) (mvT hZ (hw _ (List.mem_of_getElem? (i := 49) rfl))) (mvT hZ (hw _ (List.mem_of_getElem? (i := 48) rfl))) (by decide) (backOf (W := 0) (rm8 l Z a0 hw [] f1  T277.heap n0 Z277 Fb277) hZ (hw _ (List.mem_of_getElem? (i := 50) rfl)) (hw _ (List.mem_of_getElem? (i := 24) rfl)) (by decide) (by decide)) q287a q287c (g := (mkF m 112 #[.val (.int p1), .val (.long q2), .second, .val (.int p3), .val (.int p4), .val (.int p5), .val (.ref vv), .val (.int (1 : Int32)), .val (.ref f1)] [(.ref f1)])) rfl (by rw [hml]; rfl) (Steps.refl _) (argsL := []) (rest := []) (lenOf pd_11 rfl) rfl (by show 2 * 0 + _ ≤ _; exact Nat.le_of_eq rfl) (hb hby at_112) (fun _ _ => ⟨rfl, e280, (by decide : 2 + 0 ≤ _), (by decide : 3 + 0 ≤ _)⟩)
    dsimp only [Pt.U, Pt.locs, Pt.cells, Pt.slots] at X286 l286 y286 z286 st286 hQ286
    subst l286 y286 z286
    obtain ⟨rfl, M286, e286⟩ := hQ286
    have N286 := Fr.app N280 M286
    have R288 : ∀ t, Steps p.tables e below (T286.setTop (mkF m 115 #[.val (.int p1), .val (.long q2), .second, .val (.int p3), .val (.int p4), .val (.int p5), .val (.ref vv), .val (.int (1 : Int32)), .val (.ref f1)] [.null])) t → Steps p.tables e below (s₁.setTop (mkF m 0 #[.val (.int p1), .val (.long q2), .second, .val (.int p3), .val (.int p4), .val (.int p5), .unset, .unset, .unset] [])) t := fun t k => R285 t (st286.trans k)
    have R289 : ∀ t, Steps p.tables e below (T286.setTop (mkF m 118 #[.val (.int p1), .val (.long q2), .second, .val (.int p3), .val (.int p4), .val (.int p5), .val (.ref vv), .val (.int (1 : Int32)), .val (.ref f1)] [])) t → Steps p.tables e below (s₁.setTop (mkF m 0 #[.val (.int p1), .val (.long q2), .second, .val (.int p3), .val (.int p4), .val (.int p5), .unset, .unset, .unset] [])) t := by
      intro t k
      refine R288 t ?_
      refine XS.ifnonnullNo X286.here hx rfl (hb hby at_115) rfl ?_
      exact k
    have R290 : ∀ t, Steps p.tables e below (T286.setTop (mkF m 120 #[.val (.int p1), .val (.long q2), .second, .val (.int p3), .val (.int p4), .val (.int p5), .val (.ref vv), .val (.int (1 : Int32)), .val (.ref f1)] [(.ref f1)])) t → Steps p.tables e below (s₁.setTop (mkF m 0 #[.val (.int p1), .val (.long q2), .second, .val (.int p3), .val (.int p4), .val (.int p5), .unset, .unset, .unset] [])) t := by
      intro t k
      refine R289 t ?_
      refine XS.aload X286.here hx rfl (hb hby at_118) rfl rfl ?_
      exact k
    obtain ⟨_, _, q292a, q292b, q292c⟩ := isOf hZ e286 Eo277
    obtain ⟨_, _, ⟨T291, L291, k291, n291⟩, -, X291, ⟨Lc291, hQ291, l291, y291, z291⟩, st291⟩ := X286.virtualBack hx (y := (⟨"com/example/underwright/underwright/eligibility/Fact", "isKnown", "()Z"⟩ : MethodName)) (z := (⟨"com/example/underwright/underwright/eligibility/Fact", "isKnown", "()Z"⟩ : MethodName)) hown (mvT hZ (hw _ (List.mem_of_getElem? (i := 51) rfl))) (mvT hZ (hw _ (List.mem_of_getElem? (i := 52) rfl))) (notFace_of_selects (args := #[]) (mvT hZ (hw _ (List.mem_of_getElem? (i := 54) rfl)))) (mvT hZ (hw _ (List.mem_of_getElem? (i := 54) rfl))) (mvT hZ (hw _ (List.mem_of_getElem? (i := 53) rfl))) (by decide) (backOf (W := 0) (rm9 l Z a0 hw [] f1  T277.heap n0 Z277 Fb277) hZ (hw _ (List.mem_of_getElem? (i := 55) rfl)) (hw _ (List.mem_of_getElem? (i := 24) rfl)) (by decide) (by decide)) q292a q292c (g := (mkF m 120 #[.val (.int p1), .val (.long q2), .second, .val (.int p3), .val (.int p4), .val (.int p5), .val (.ref vv), .val (.int (1 : Int32)), .val (.ref f1)] [(.ref f1)])) rfl (by rw [hml]; rfl) (Steps.refl _) (argsL := []) (rest := []) (lenOf pd_12 rfl) rfl (by show 2 * 0 + _ ≤ _; exact Nat.le_of_eq rfl) (hb hby at_120) (fun _ _ => ⟨rfl, e286, (by decide : 2 + 0 ≤ _), (by decide : 3 + 0 ≤ _)⟩)
    dsimp only [Pt.U, Pt.locs, Pt.cells, Pt.slots] at X291 l291 y291 z291 st291 hQ291
    subst l291 y291 z291
    obtain ⟨rfl, M291, e291⟩ := hQ291
    have N291 := Fr.app N286 M291
    have R293 : ∀ t, Steps p.tables e below (T291.setTop (mkF m 123 #[.val (.int p1), .val (.long q2), .second, .val (.int p3), .val (.int p4), .val (.int p5), .val (.ref vv), .val (.int (1 : Int32)), .val (.ref f1)] [(.int (1 : Int32))])) t → Steps p.tables e below (s₁.setTop (mkF m 0 #[.val (.int p1), .val (.long q2), .second, .val (.int p3), .val (.int p4), .val (.int p5), .unset, .unset, .unset] [])) t := fun t k => R290 t (st291.trans k)
    have R294 : ∀ t, Steps p.tables e below (T291.setTop (mkF m 126 #[.val (.int p1), .val (.long q2), .second, .val (.int p3), .val (.int p4), .val (.int p5), .val (.ref vv), .val (.int (1 : Int32)), .val (.ref f1)] [])) t → Steps p.tables e below (s₁.setTop (mkF m 0 #[.val (.int p1), .val (.long q2), .second, .val (.int p3), .val (.int p4), .val (.int p5), .unset, .unset, .unset] [])) t := by
      intro t k
      refine R293 t ?_
      refine XS.ifNo X291.here hx rfl (hb hby at_123) rfl ((if0 _ _).trans (feq (by decide)).1) ?_
      exact k
    have R295 : ∀ t, Steps p.tables e below (T291.setTop (mkF m 131 #[.val (.int p1), .val (.long q2), .second, .val (.int p3), .val (.int p4), .val (.int p5), .val (.ref vv), .val (.int (1 : Int32)), .val (.ref f1)] [(.int (1 : Int32))])) t → Steps p.tables e below (s₁.setTop (mkF m 0 #[.val (.int p1), .val (.long q2), .second, .val (.int p3), .val (.int p4), .val (.int p5), .unset, .unset, .unset] [])) t := by
      intro t k
      refine R294 t ?_
      refine XS.iconst X291.here hx rfl (hb hby at_126) ?_
      refine XS.goto X291.here hx rfl (pc0 := 127) (pc' := 131) rfl (hb hby at_127) (by decide) (by decide) ?_
      exact k
    obtain ⟨fs, hr, hrun, hended, hv1, hv2, hv3, hv4⟩ := X291.leaveW (s := s) (vm₁ := s.vm) ((State.WarmedH.refl s).since 0) (by rw [show T291.heap = T277.heap from e291]; exact Y277) (v := some (.int (1 : Int32))) (fun h => by rw [Bd.returns] at h; cases h)
    refine ⟨_, _, pre0 _ (R295 _ (retN X291 hx (t := .boolean) Bd.returns (by simp) (hb hby at_131) hr)), hrun, hended, _, _, rfl, ?_, hv1, hv2, hv3, hv4.mono (by decide) (by decide)⟩
    show Q_rm0 Z p1 q2 p3 p4 p5 cs ci cli cj clj h0 n0 _ T291.heap _
    rw [e291]
    exact ⟨rfl, N291⟩
  · have R296 : ∀ t, Steps p.tables e below (s₁.setTop (mkF m 8 #[.val (.int p1), .val (.long q2), .second, .val (.int p3), .val (.int p4), .val (.int p5), .unset, .val (.int (2 : Int32)), .unset] [(.int (2 : Int32))])) t → Steps p.tables e below (s₁.setTop (mkF m 0 #[.val (.int p1), .val (.long q2), .second, .val (.int p3), .val (.int p4), .val (.int p5), .unset, .unset, .unset] [])) t := by
      intro t k
      refine R241 t ?_
      refine XS.iload X0.here hx rfl (hb hby at_6) rfl ?_
      exact k
    have R297 : ∀ t, Steps p.tables e below (s₁.setTop (mkF m 20 #[.val (.int p1), .val (.long q2), .second, .val (.int p3), .val (.int p4), .val (.int p5), .unset, .val (.int (2 : Int32)), .unset] [])) t → Steps p.tables e below (s₁.setTop (mkF m 0 #[.val (.int p1), .val (.long q2), .second, .val (.int p3), .val (.int p4), .val (.int p5), .unset, .unset, .unset] [])) t := by
      intro t k
      refine R296 t ?_
      refine XS.ifYes X0.here hx rfl (pc0 := 8) (pc' := 20) rfl (hb hby at_8) rfl ((if0 _ _).trans (feq (by decide)).2) (by decide) (by decide) ?_
      exact k
    have R298 : ∀ t, Steps p.tables e below (s₁.setTop (mkF m 23 #[.val (.int p1), .val (.long q2), .second, .val (.int p3), .val (.int p4), .val (.int p5), .unset, .val (.int (2 : Int32)), .unset] [(.int (1 : Int32)), (.int (2 : Int32))])) t → Steps p.tables e below (s₁.setTop (mkF m 0 #[.val (.int p1), .val (.long q2), .second, .val (.int p3), .val (.int p4), .val (.int p5), .unset, .unset, .unset] [])) t := by
      intro t k
      refine R297 t ?_
      refine XS.iload X0.here hx rfl (hb hby at_20) rfl ?_
      refine XS.iconst X0.here hx rfl (hb hby at_22) ?_
      exact k
    have R299 : ∀ t, Steps p.tables e below (s₁.setTop (mkF m 35 #[.val (.int p1), .val (.long q2), .second, .val (.int p3), .val (.int p4), .val (.int p5), .unset, .val (.int (2 : Int32)), .unset] [])) t → Steps p.tables e below (s₁.setTop (mkF m 0 #[.val (.int p1), .val (.long q2), .second, .val (.int p3), .val (.int p4), .val (.int p5), .unset, .unset, .unset] [])) t := by
      intro t k
      refine R298 t ?_
      refine XS.icmpYes X0.here hx rfl (pc0 := 23) (pc' := 35) rfl (hb hby at_23) rfl (feq (by decide)).2 (by decide) (by decide) ?_
      exact k
    have R300 : ∀ t, Steps p.tables e below (s₁.setTop (mkF m 38 #[.val (.int p1), .val (.long q2), .second, .val (.int p3), .val (.int p4), .val (.int p5), .unset, .val (.int (2 : Int32)), .unset] [(.int (2 : Int32)), (.int (2 : Int32))])) t → Steps p.tables e below (s₁.setTop (mkF m 0 #[.val (.int p1), .val (.long q2), .second, .val (.int p3), .val (.int p4), .val (.int p5), .unset, .unset, .unset] [])) t := by
      intro t k
      refine R299 t ?_
      refine XS.iload X0.here hx rfl (hb hby at_35) rfl ?_
      refine XS.iconst X0.here hx rfl (hb hby at_37) ?_
      exact k
    have R301 : ∀ t, Steps p.tables e below (s₁.setTop (mkF m 41 #[.val (.int p1), .val (.long q2), .second, .val (.int p3), .val (.int p4), .val (.int p5), .unset, .val (.int (2 : Int32)), .unset] [])) t → Steps p.tables e below (s₁.setTop (mkF m 0 #[.val (.int p1), .val (.long q2), .second, .val (.int p3), .val (.int p4), .val (.int p5), .unset, .unset, .unset] [])) t := by
      intro t k
      refine R300 t ?_
      refine XS.icmpNo X0.here hx rfl (hb hby at_38) rfl (teq rfl).2 ?_
      exact k
    have R302 : ∀ t, Steps p.tables e below (s₁.setTop (mkF m 42 #[.val (.int p1), .val (.long q2), .second, .val (.int p3), .val (.int p4), .val (.int p5), .unset, .val (.int (2 : Int32)), .unset] [(.int (2 : Int32))])) t → Steps p.tables e below (s₁.setTop (mkF m 0 #[.val (.int p1), .val (.long q2), .second, .val (.int p3), .val (.int p4), .val (.int p5), .unset, .unset, .unset] [])) t := by
      intro t k
      refine R301 t ?_
      refine XS.iconst X0.here hx rfl (hb hby at_41) ?_
      exact k
    obtain ⟨T303, h303, c303, X303, e303, x303, B303, st303⟩ := newP X0 hx hZ (hw _ (List.mem_of_getElem? (i := 3) rfl)) e0 (g := (mkF m 42 #[.val (.int p1), .val (.long q2), .second, .val (.int p3), .val (.int p4), .val (.int p5), .unset, .val (.int (2 : Int32)), .unset] [(.int (2 : Int32))])) rfl (hb hby at_42) rfl (by decide) (cap := 2) (by decide) (by decide) (by decide) (by decide)
    obtain ⟨t1, g_t1⟩ : ∃ z, z = h0.size := ⟨_, rfl⟩
    rw [← g_t1] at B303 st303
    have n_t1 : n0 ≤ t1 := Nat.le_trans Z0 (Nat.le_of_eq g_t1.symm)
    have Z303 : n0 ≤ h303.size := Nat.le_trans Z0 x303.1
    have Y303 : 0 ≤ h303.size := Nat.le_trans (Nat.zero_le _) x303.1
    have S_304 : Sta Z h303 "java/lang/String" "COMPACT_STRINGS" "Z" (.int cs) := S_1.ext x303
    have V303 : Arv Z h303 t1 c303 .char (2 : Int32) [(.int (0 : Int32)), (.int (0 : Int32))] (.int (0 : Int32)) := (Arv.new B303 (by decide)).pad (pad_rep [] (.int (0 : Int32)) 2)
    have R305 : ∀ t, Steps p.tables e below (T303.setTop (mkF m 44 #[.val (.int p1), .val (.long q2), .second, .val (.int p3), .val (.int p4), .val (.int p5), .unset, .val (.int (2 : Int32)), .unset] [(.ref t1)])) t → Steps p.tables e below (s₁.setTop (mkF m 0 #[.val (.int p1), .val (.long q2), .second, .val (.int p3), .val (.int p4), .val (.int p5), .unset, .unset, .unset] [])) t := fun t k => R302 t (st303 _ k)
    have R306 : ∀ t, Steps p.tables e below (T303.setTop (mkF m 55 #[.val (.int p1), .val (.long q2), .second, .val (.int p3), .val (.int p4), .val (.int p5), .unset, .val (.int (2 : Int32)), .val (.ref t1)] [(.int (((p3 &&& (255 : Int32))).toUInt32.toUInt16.toUInt32.toInt32)), (.int (0 : Int32)), (.ref t1)])) t → Steps p.tables e below (s₁.setTop (mkF m 0 #[.val (.int p1), .val (.long q2), .second, .val (.int p3), .val (.int p4), .val (.int p5), .unset, .unset, .unset] [])) t := by
      intro t k
      refine R305 t ?_
      refine XS.astore X303.here hx rfl (hb hby at_44) rfl rfl (l' := #[.val (.int p1), .val (.long q2), .second, .val (.int p3), .val (.int p4), .val (.int p5), .unset, .val (.int (2 : Int32)), .val (.ref t1)]) rfl ?_
      refine XS.aload X303.here hx rfl (hb hby at_46) rfl rfl ?_
      refine XS.iconst X303.here hx rfl (hb hby at_48) ?_
      refine XS.iloadN X303.here hx rfl (hb hby at_49) rfl ?_
      refine XS.sipush X303.here hx rfl (hb hby at_50) ?_
      refine XS.iand X303.here hx rfl (hb hby at_53) rfl ?_
      refine XS.i2c X303.here hx rfl (hb hby at_54) rfl ?_
      exact k
    obtain ⟨cl307, Ar307, q307, Sz307, Nn307, Hh307, G307⟩ := V303
    have hin307 : ¬ ((0 : Int32) < 0 ∨ cl307.slots.size ≤ ((0 : Int32)).toNatClampNeg) := inb_of Sz307 ⟨by decide, by decide⟩
    obtain ⟨T307, h307, X307, e307, W307, st307⟩ := stC X303 hx hZ e303 Ar307 (j := (0 : Int32)) hin307 (g := (mkF m 55 #[.val (.int p1), .val (.long q2), .second, .val (.int p3), .val (.int p4), .val (.int p5), .unset, .val (.int (2 : Int32)), .val (.ref t1)] [(.int (((p3 &&& (255 : Int32))).toUInt32.toUInt16.toUInt32.toInt32)), (.int (0 : Int32)), (.ref t1)])) rfl rfl (hb hby at_55)
    have N307 := Fr.snoc X307 N0 n_t1
    have Z307 : n0 ≤ h307.size := Nat.le_trans Z303 (Keep.of_wr W307).1
    have Y307 : 0 ≤ h307.size := Nat.le_trans Y303 (Keep.of_wr W307).1
    have S_308 : Sta Z h307 "java/lang/String" "COMPACT_STRINGS" "Z" (.int cs) := S_304.wr W307
    have V307 : Arv Z h307 t1 c303 .char (2 : Int32) [(.int (own_ch p3)), (.int (0 : Int32))] (.int (0 : Int32)) := Arv.set Ar307 q307 Sz307 Nn307 Hh307 G307 (fits_nar_char _) W307 0 rfl (Nat.le_of_ble_eq_true rfl)
    have R309 : ∀ t, Steps p.tables e below (T307.setTop (mkF m 56 #[.val (.int p1), .val (.long q2), .second, .val (.int p3), .val (.int p4), .val (.int p5), .unset, .val (.int (2 : Int32)), .val (.ref t1)] [])) t → Steps p.tables e below (s₁.setTop (mkF m 0 #[.val (.int p1), .val (.long q2), .second, .val (.int p3), .val (.int p4), .val (.int p5), .unset, .unset, .unset] [])) t := fun t k => R306 t (st307 _ k)
    have R310 : ∀ t, Steps p.tables e below (T307.setTop (mkF m 66 #[.val (.int p1), .val (.long q2), .second, .val (.int p3), .val (.int p4), .val (.int p5), .unset, .val (.int (2 : Int32)), .val (.ref t1)] [(.int (((p4 &&& (255 : Int32))).toUInt32.toUInt16.toUInt32.toInt32)), (.int (1 : Int32)), (.ref t1)])) t → Steps p.tables e below (s₁.setTop (mkF m 0 #[.val (.int p1), .val (.long q2), .second, .val (.int p3), .val (.int p4), .val (.int p5), .unset, .unset, .unset] [])) t := by
      intro t k
      refine R309 t ?_
      refine XS.aload X307.here hx rfl (hb hby at_56) rfl rfl ?_
      refine XS.iconst X307.here hx rfl (hb hby at_58) ?_
      refine XS.iload X307.here hx rfl (hb hby at_59) rfl ?_
      refine XS.sipush X307.here hx rfl (hb hby at_61) ?_
      refine XS.iand X307.here hx rfl (hb hby at_64) rfl ?_
      refine XS.i2c X307.here hx rfl (hb hby at_65) rfl ?_
      exact k
    obtain ⟨cl311, Ar311, q311, Sz311, Nn311, Hh311, G311⟩ := V307
    have hin311 : ¬ ((1 : Int32) < 0 ∨ cl311.slots.size ≤ ((1 : Int32)).toNatClampNeg) := inb_of Sz311 ⟨by decide, by decide⟩
    obtain ⟨T311, h311, X311, e311, W311, st311⟩ := stC X307 hx hZ e307 Ar311 (j := (1 : Int32)) hin311 (g := (mkF m 66 #[.val (.int p1), .val (.long q2), .second, .val (.int p3), .val (.int p4), .val (.int p5), .unset, .val (.int (2 : Int32)), .val (.ref t1)] [(.int (((p4 &&& (255 : Int32))).toUInt32.toUInt16.toUInt32.toInt32)), (.int (1 : Int32)), (.ref t1)])) rfl rfl (hb hby at_66)
    have N311 := Fr.snoc X311 N307 n_t1
    have Z311 : n0 ≤ h311.size := Nat.le_trans Z307 (Keep.of_wr W311).1
    have Y311 : 0 ≤ h311.size := Nat.le_trans Y307 (Keep.of_wr W311).1
    have S_312 : Sta Z h311 "java/lang/String" "COMPACT_STRINGS" "Z" (.int cs) := S_308.wr W311
    have V311 : Arv Z h311 t1 c303 .char (2 : Int32) [(.int (own_ch p3)), (.int (own_ch p4))] (.int (0 : Int32)) := Arv.set Ar311 q311 Sz311 Nn311 Hh311 G311 (fits_nar_char _) W311 1 rfl (Nat.le_of_ble_eq_true rfl)
    have R313 : ∀ t, Steps p.tables e below (T311.setTop (mkF m 67 #[.val (.int p1), .val (.long q2), .second, .val (.int p3), .val (.int p4), .val (.int p5), .unset, .val (.int (2 : Int32)), .val (.ref t1)] [])) t → Steps p.tables e below (s₁.setTop (mkF m 0 #[.val (.int p1), .val (.long q2), .second, .val (.int p3), .val (.int p4), .val (.int p5), .unset, .unset, .unset] [])) t := fun t k => R310 t (st311 _ k)
    obtain ⟨T314, h314, X314, e314, x314, A314, D314, -, st314⟩ := newO X311 hx hZ hown (hw _ (List.mem_of_getElem? (i := 0) rfl)) (hw _ (List.mem_of_getElem? (i := 1) rfl)) (hw _ (List.mem_of_getElem? (i := 2) rfl)) e311 (g := (mkF m 67 #[.val (.int p1), .val (.long q2), .second, .val (.int p3), .val (.int p4), .val (.int p5), .unset, .val (.int (2 : Int32)), .val (.ref t1)] [])) rfl (hb hby at_67) (by decide) (by decide)
    obtain ⟨b1, g_b1⟩ : ∃ z, z = h311.size := ⟨_, rfl⟩
    rw [← g_b1] at A314 D314 st314
    have ne_t1_b1 : t1 ≠ b1 := Nat.ne_of_lt (Nat.lt_of_lt_of_eq V311.lt g_b1.symm)
    have n_b1 : n0 ≤ b1 := Nat.le_trans Z311 (Nat.le_of_eq g_b1.symm)
    have Z314 : n0 ≤ h314.size := Nat.le_trans Z311 x314.1
    have Y314 : 0 ≤ h314.size := Nat.le_trans Y311 x314.1
    have S_315 : Sta Z h314 "java/lang/String" "COMPACT_STRINGS" "Z" (.int cs) := S_312.ext x314
    have A_316 : Arv Z h314 t1 c303 .char (2 : Int32) [(.int (own_ch p3)), (.int (own_ch p4))] (.int (0 : Int32)) := V311.ext x314
    have F_317 : Fld Z h314 b1 "java/lang/String" "value" "[B" .null := D314 (Or.inr (hw _ (List.mem_of_getElem? (i := 16) rfl))) (ty := (.array .byte)) (by decide)
    have F_318 : Fld Z h314 b1 "java/lang/String" "coder" "B" (.int (0 : Int32)) := D314 (Or.inr (hw _ (List.mem_of_getElem? (i := 17) rfl))) (ty := .byte) (by decide)
    have R319 : ∀ t, Steps p.tables e below (T314.setTop (mkF m 70 #[.val (.int p1), .val (.long q2), .second, .val (.int p3), .val (.int p4), .val (.int p5), .unset, .val (.int (2 : Int32)), .val (.ref t1)] [(.ref b1)])) t → Steps p.tables e below (s₁.setTop (mkF m 0 #[.val (.int p1), .val (.long q2), .second, .val (.int p3), .val (.int p4), .val (.int p5), .unset, .unset, .unset] [])) t := fun t k => R313 t (st314 _ k)
    have R320 : ∀ t, Steps p.tables e below (T314.setTop (mkF m 73 #[.val (.int p1), .val (.long q2), .second, .val (.int p3), .val (.int p4), .val (.int p5), .unset, .val (.int (2 : Int32)), .val (.ref t1)] [(.ref t1), (.ref b1), (.ref b1)])) t → Steps p.tables e below (s₁.setTop (mkF m 0 #[.val (.int p1), .val (.long q2), .second, .val (.int p3), .val (.int p4), .val (.int p5), .unset, .unset, .unset] [])) t := by
      intro t k
      refine R319 t ?_
      refine XS.dup X314.here hx rfl (hb hby at_70) rfl rfl ?_
      refine XS.aload X314.here hx rfl (hb hby at_71) rfl rfl ?_
      exact k
    obtain ⟨_, _, ⟨T321, L321, k321, n321⟩, -, X321, ⟨Lc321, hQ321, l321, y321, z321⟩, st321⟩ := X314.specialBack hx (y := (⟨"java/lang/String", "<init>", "([C)V"⟩ : MethodName)) rfl hown (mvT hZ (hw _ (List.mem_of_getElem? (i := 4) rfl))) (mvT hZ (hw _ (List.mem_of_getElem? (i := 5) rfl))) (mvT hZ (hw _ (List.mem_of_getElem? (i := 6) rfl))) (by decide) (backOf (W := 1) (rmi1 l Z a0 hw [] b1 t1 .null (.int (0 : Int32)) c303 (own_ch p3) (own_ch p4) cs h314 n0 Z314 A314 F_317 F_318 n_b1 A_316 (own_chle p3) (own_chle p4) S_315 hcs ne_t1_b1) hZ (hw _ (List.mem_of_getElem? (i := 6) rfl)) (hw _ (List.mem_of_getElem? (i := 2) rfl)) (by decide) (by decide)) (g := (mkF m 73 #[.val (.int p1), .val (.long q2), .second, .val (.int p3), .val (.int p4), .val (.int p5), .unset, .val (.int (2 : Int32)), .val (.ref t1)] [(.ref t1), (.ref b1), (.ref b1)])) rfl (by rw [hml]; rfl) (Steps.refl _) (a := b1) (argsL := [(.ref t1)]) (rest := [(.ref b1)]) (lenOf pd_14 rfl) rfl (by show 2 * 0 + _ ≤ _; exact Nat.le_of_eq rfl) (hb hby at_73) (fun _ _ => ⟨rfl, e314, (by decide : 2 + 1 ≤ _), (by decide : 6 + 2 ≤ _)⟩)
    dsimp only [Pt.U, Pt.locs, Pt.cells, Pt.slots] at X321 l321 y321 z321 st321 hQ321
    subst l321 y321 z321
    obtain ⟨rfl, M321, J321⟩ := hQ321
    have Z321 : n0 ≤ T321.heap.size := Nat.le_trans Z314 J321.1
    have Y321 : 0 ≤ T321.heap.size := Nat.le_trans Y314 J321.1
    have S_322 : Sta Z T321.heap "java/lang/String" "COMPACT_STRINGS" "Z" (.int cs) := own_sta_keep S_315 J321 (allS (own_exa_st A314) all0)
    have A_323 : Arv Z T321.heap t1 c303 .char (2 : Int32) [(.int (own_ch p3)), (.int (own_ch p4))] (.int (0 : Int32)) := A_316.keep J321 (ninS ne_t1_b1 nin0)
    have E_324 : Exa Z T321.heap b1 "java/lang/String" := A314.keep J321
    have N321 := Fr.app N311 M321
    have R325 : ∀ t, Steps p.tables e below (T321.setTop (mkF m 76 #[.val (.int p1), .val (.long q2), .second, .val (.int p3), .val (.int p4), .val (.int p5), .unset, .val (.int (2 : Int32)), .val (.ref t1)] [(.ref b1)])) t → Steps p.tables e below (s₁.setTop (mkF m 0 #[.val (.int p1), .val (.long q2), .second, .val (.int p3), .val (.int p4), .val (.int p5), .unset, .unset, .unset] [])) t := fun t k => R320 t (st321.trans k)
    have R326 : ∀ t, Steps p.tables e below (T321.setTop (mkF m 95 #[.val (.int p1), .val (.long q2), .second, .val (.int p3), .val (.int p4), .val (.int p5), .val (.ref b1), .val (.int (2 : Int32)), .val (.ref t1)] [(.ref b1)])) t → Steps p.tables e below (s₁.setTop (mkF m 0 #[.val (.int p1), .val (.long q2), .second, .val (.int p3), .val (.int p4), .val (.int p5), .unset, .unset, .unset] [])) t := by
      intro t k
      refine R325 t ?_
      refine XS.astore X321.here hx rfl (hb hby at_76) rfl rfl (l' := #[.val (.int p1), .val (.long q2), .second, .val (.int p3), .val (.int p4), .val (.int p5), .val (.ref b1), .val (.int (2 : Int32)), .val (.ref t1)]) rfl ?_
      refine XS.goto X321.here hx rfl (pc0 := 78) (pc' := 93) rfl (hb hby at_78) (by decide) (by decide) ?_
      refine XS.aload X321.here hx rfl (hb hby at_93) rfl rfl ?_
      exact k
    obtain ⟨_, _, ⟨T327, L327, k327, n327⟩, -, X327, ⟨Lc327, hQ327, l327, y327, z327⟩, st327⟩ := Jvm.LawKit.callS X321 hx (y := (⟨"com/example/underwright/underwright/eligibility/Fact", "of", "(Ljava/lang/Object;)Lcom/example/underwright/underwright/eligibility/Fact;"⟩ : MethodName)) hown (mvT hZ (hw _ (List.mem_of_getElem? (i := 22) rfl))) (mvT hZ (hw _ (List.mem_of_getElem? (i := 23) rfl))) (mvT hZ (hw _ (List.mem_of_getElem? (i := 24) rfl))) (mvT hZ (hw _ (List.mem_of_getElem? (i := 25) rfl))) (by decide) (backOf (W := 0) (rm4 l Z a0 hw [] b1  T321.heap n0 Z321 ) hZ (hw _ (List.mem_of_getElem? (i := 25) rfl)) (hw _ (List.mem_of_getElem? (i := 24) rfl)) (by decide) (by decide)) (g := (mkF m 95 #[.val (.int p1), .val (.long q2), .second, .val (.int p3), .val (.int p4), .val (.int p5), .val (.ref b1), .val (.int (2 : Int32)), .val (.ref t1)] [(.ref b1)])) rfl (by rw [hml]; rfl) (argsL := [(.ref b1)]) (rest := []) (lenOf pd_9 rfl) rfl (by show 2 * 0 + _ ≤ _; exact Nat.le_of_eq rfl) (hb hby at_95) (fun _ _ => ⟨rfl, rfl, (by decide : 3 + 1 ≤ _), (by decide : 8 + 2 ≤ _)⟩)
    dsimp only [Pt.U, Pt.locs, Pt.cells, Pt.slots] at X327 l327 y327 z327 st327 hQ327
    subst l327 y327 z327
    obtain ⟨f1, rfl, M327, J327, zf327, Eo327, Fa327, Fb327⟩ := hQ327
    have Z327 : n0 ≤ T327.heap.size := Nat.le_trans Z321 J327.1
    have Y327 : 0 ≤ T327.heap.size := Nat.le_trans Y321 J327.1
    have n_f1 : n0 ≤ f1 := Nat.le_trans Z321 zf327
    have N327 := Fr.app N321 M327
    have R328 : ∀ t, Steps p.tables e below (T327.setTop (mkF m 98 #[.val (.int p1), .val (.long q2), .second, .val (.int p3), .val (.int p4), .val (.int p5), .val (.ref b1), .val (.int (2 : Int32)), .val (.ref t1)] [(.ref f1)])) t → Steps p.tables e below (s₁.setTop (mkF m 0 #[.val (.int p1), .val (.long q2), .second, .val (.int p3), .val (.int p4), .val (.int p5), .unset, .unset, .unset] [])) t := fun t k => R326 t (st327 _ k)
    have R329 : ∀ t, Steps p.tables e below (T327.setTop (mkF m 102 #[.val (.int p1), .val (.long q2), .second, .val (.int p3), .val (.int p4), .val (.int p5), .val (.ref b1), .val (.int (2 : Int32)), .val (.ref f1)] [(.ref f1)])) t → Steps p.tables e below (s₁.setTop (mkF m 0 #[.val (.int p1), .val (.long q2), .second, .val (.int p3), .val (.int p4), .val (.int p5), .unset, .unset, .unset] [])) t := by
      intro t k
      refine R328 t ?_
      refine XS.astore X327.here hx rfl (hb hby at_98) rfl rfl (l' := #[.val (.int p1), .val (.long q2), .second, .val (.int p3), .val (.int p4), .val (.int p5), .val (.ref b1), .val (.int (2 : Int32)), .val (.ref f1)]) rfl ?_
      refine XS.aload X327.here hx rfl (hb hby at_100) rfl rfl ?_
      exact k
    obtain ⟨_, _, q331a, q331b, q331c⟩ := isOf hZ rfl Eo327
    obtain ⟨_, _, ⟨T330, L330, k330, n330⟩, -, X330, ⟨Lc330, hQ330, l330, y330, z330⟩, st330⟩ := X327.virtualBack hx (y := (⟨"com/example/underwright/underwright/eligibility/Fact", "value", "()Ljava/lang/Object;"⟩ : MethodName)) (z := (⟨"com/example/underwright/underwright/eligibility/Fact", "value", "()Ljava/lang/Object;"⟩ : MethodName)) hown (mvT hZ (hw _ (List.mem_of_getElem? (i := 41) rfl))) (mvT hZ (hw _ (List.mem_of_getElem? (i := 42) rfl))) (notFace_of_selects (args := #[]) (mvT hZ (hw _ (List.mem_of_getElem? (i := 44) rfl)))) (mvT hZ (hw _ (List.mem_of_getElem? (i := 44) rfl))) (mvT hZ (hw _ (List.mem_of_getElem? (i := 43) rfl))) (by decide) (backOf (W := 0) (rm7 l Z a0 hw [] f1 b1 T327.heap n0 Z327 Fa327) hZ (hw _ (List.mem_of_getElem? (i := 45) rfl)) (hw _ (List.mem_of_getElem? (i := 24) rfl)) (by decide) (by decide)) q331a q331c (g := (mkF m 102 #[.val (.int p1), .val (.long q2), .second, .val (.int p3), .val (.int p4), .val (.int p5), .val (.ref b1), .val (.int (2 : Int32)), .val (.ref f1)] [(.ref f1)])) rfl (by rw [hml]; rfl) (Steps.refl _) (argsL := []) (rest := []) (lenOf pd_10 rfl) rfl (by show 2 * 0 + _ ≤ _; exact Nat.le_of_eq rfl) (hb hby at_102) (fun _ _ => ⟨rfl, rfl, (by decide : 4 + 0 ≤ _), (by decide : 10 + 0 ≤ _)⟩)
    dsimp only [Pt.U, Pt.locs, Pt.cells, Pt.slots] at X330 l330 y330 z330 st330 hQ330
    subst l330 y330 z330
    obtain ⟨rfl, M330, e330⟩ := hQ330
    have N330 := Fr.app N327 M330
    have R332 : ∀ t, Steps p.tables e below (T330.setTop (mkF m 105 #[.val (.int p1), .val (.long q2), .second, .val (.int p3), .val (.int p4), .val (.int p5), .val (.ref b1), .val (.int (2 : Int32)), .val (.ref f1)] [(.ref b1)])) t → Steps p.tables e below (s₁.setTop (mkF m 0 #[.val (.int p1), .val (.long q2), .second, .val (.int p3), .val (.int p4), .val (.int p5), .unset, .unset, .unset] [])) t := fun t k => R329 t (st330.trans k)
    have R333 : ∀ t, Steps p.tables e below (T330.setTop (mkF m 107 #[.val (.int p1), .val (.long q2), .second, .val (.int p3), .val (.int p4), .val (.int p5), .val (.ref b1), .val (.int (2 : Int32)), .val (.ref f1)] [(.ref b1), (.ref b1)])) t → Steps p.tables e below (s₁.setTop (mkF m 0 #[.val (.int p1), .val (.long q2), .second, .val (.int p3), .val (.int p4), .val (.int p5), .unset, .unset, .unset] [])) t := by
      intro t k
      refine R332 t ?_
      refine XS.aload X330.here hx rfl (hb hby at_105) rfl rfl ?_
      exact k
    have R334 : ∀ t, Steps p.tables e below (T330.setTop (mkF m 110 #[.val (.int p1), .val (.long q2), .second, .val (.int p3), .val (.int p4), .val (.int p5), .val (.ref b1), .val (.int (2 : Int32)), .val (.ref f1)] [])) t → Steps p.tables e below (s₁.setTop (mkF m 0 #[.val (.int p1), .val (.long q2), .second, .val (.int p3), .val (.int p4), .val (.int p5), .unset, .unset, .unset] [])) t := by
      intro t k
      refine R333 t ?_
      refine Jvm.RoadKit.acmp (g := (mkF m 107 #[.val (.int p1), .val (.long q2), .second, .val (.int p3), .val (.int p4), .val (.int p5), .val (.ref b1), .val (.int (2 : Int32)), .val (.ref f1)] [(.ref b1), (.ref b1)])) X330 hx rfl rfl rfl (pc0 := 107) (pc' := 110) (same := true) rfl (hb hby at_107) rfl (decide_eq_true (congrArg Value.ref (rfl))) (by decide) (by decide) ?_
      exact k
    have R335 : ∀ t, Steps p.tables e below (T330.setTop (mkF m 112 #[.val (.int p1), .val (.long q2), .second, .val (.int p3), .val (.int p4), .val (.int p5), .val (.ref b1), .val (.int (2 : Int32)), .val (.ref f1)] [(.ref f1)])) t → Steps p.tables e below (s₁.setTop (mkF m 0 #[.val (.int p1), .val (.long q2), .second, .val (.int p3), .val (.int p4), .val (.int p5), .unset, .unset, .unset] [])) t := by
      intro t k
      refine R334 t ?_
      refine XS.aload X330.here hx rfl (hb hby at_110) rfl rfl ?_
      exact k
    obtain ⟨_, _, q337a, q337b, q337c⟩ := isOf hZ e330 Eo327
    obtain ⟨_, _, ⟨T336, L336, k336, n336⟩, -, X336, ⟨Lc336, hQ336, l336, y336, z336⟩, st336⟩ := X330.virtualBack hx (y := (⟨"com/example/underwright/underwright/eligibility/Fact", "unknown", "()Lcom/example/underwright/underwright/eligibility/Unknown;"⟩ : MethodName)) (z := (⟨"com/example/underwright/underwright/eligibility/Fact", "unknown", "()Lcom/example/underwright/underwright/eligibility/Unknown;"⟩ : MethodName)) hown (mvT hZ (hw _ (List.mem_of_getElem? (i := 46) rfl))) (mvT hZ (hw _ (List.mem_of_getElem? (i := 47) rfl))) (notFace_of_selects (args := #[]) (mvT hZ (hw _ (List.mem_of_getElem? (i := 49) rfl)))) (mvT hZ (hw _ (List.mem_of_getElem? (i := 49) rfl))) (mvT hZ (hw _ (List.mem_of_getElem? (i := 48) rfl))) (by decide) (backOf (W := 0) (rm8 l Z a0 hw [] f1  T327.heap n0 Z327 Fb327) hZ (hw _ (List.mem_of_getElem? (i := 50) rfl)) (hw _ (List.mem_of_getElem? (i := 24) rfl)) (by decide) (by decide)) q337a q337c (g := (mkF m 112 #[.val (.int p1), .val (.long q2), .second, .val (.int p3), .val (.int p4), .val (.int p5), .val (.ref b1), .val (.int (2 : Int32)), .val (.ref f1)] [(.ref f1)])) rfl (by rw [hml]; rfl) (Steps.refl _) (argsL := []) (rest := []) (lenOf pd_11 rfl) rfl (by show 2 * 0 + _ ≤ _; exact Nat.le_of_eq rfl) (hb hby at_112) (fun _ _ => ⟨rfl, e330, (by decide : 4 + 0 ≤ _), (by decide : 10 + 0 ≤ _)⟩)
    dsimp only [Pt.U, Pt.locs, Pt.cells, Pt.slots] at X336 l336 y336 z336 st336 hQ336
    subst l336 y336 z336
    obtain ⟨rfl, M336, e336⟩ := hQ336
    have N336 := Fr.app N330 M336
    have R338 : ∀ t, Steps p.tables e below (T336.setTop (mkF m 115 #[.val (.int p1), .val (.long q2), .second, .val (.int p3), .val (.int p4), .val (.int p5), .val (.ref b1), .val (.int (2 : Int32)), .val (.ref f1)] [.null])) t → Steps p.tables e below (s₁.setTop (mkF m 0 #[.val (.int p1), .val (.long q2), .second, .val (.int p3), .val (.int p4), .val (.int p5), .unset, .unset, .unset] [])) t := fun t k => R335 t (st336.trans k)
    have R339 : ∀ t, Steps p.tables e below (T336.setTop (mkF m 118 #[.val (.int p1), .val (.long q2), .second, .val (.int p3), .val (.int p4), .val (.int p5), .val (.ref b1), .val (.int (2 : Int32)), .val (.ref f1)] [])) t → Steps p.tables e below (s₁.setTop (mkF m 0 #[.val (.int p1), .val (.long q2), .second, .val (.int p3), .val (.int p4), .val (.int p5), .unset, .unset, .unset] [])) t := by
      intro t k
      refine R338 t ?_
      refine XS.ifnonnullNo X336.here hx rfl (hb hby at_115) rfl ?_
      exact k
    have R340 : ∀ t, Steps p.tables e below (T336.setTop (mkF m 120 #[.val (.int p1), .val (.long q2), .second, .val (.int p3), .val (.int p4), .val (.int p5), .val (.ref b1), .val (.int (2 : Int32)), .val (.ref f1)] [(.ref f1)])) t → Steps p.tables e below (s₁.setTop (mkF m 0 #[.val (.int p1), .val (.long q2), .second, .val (.int p3), .val (.int p4), .val (.int p5), .unset, .unset, .unset] [])) t := by
      intro t k
      refine R339 t ?_
      refine XS.aload X336.here hx rfl (hb hby at_118) rfl rfl ?_
      exact k
    obtain ⟨_, _, q342a, q342b, q342c⟩ := isOf hZ e336 Eo327
    obtain ⟨_, _, ⟨T341, L341, k341, n341⟩, -, X341, ⟨Lc341, hQ341, l341, y341, z341⟩, st341⟩ := X336.virtualBack hx (y := (⟨"com/example/underwright/underwright/eligibility/Fact", "isKnown", "()Z"⟩ : MethodName)) (z := (⟨"com/example/underwright/underwright/eligibility/Fact", "isKnown", "()Z"⟩ : MethodName)) hown (mvT hZ (hw _ (List.mem_of_getElem? (i := 51) rfl))) (mvT hZ (hw _ (List.mem_of_getElem? (i := 52) rfl))) (notFace_of_selects (args := #[]) (mvT hZ (hw _ (List.mem_of_getElem? (i := 54) rfl)))) (mvT hZ (hw _ (List.mem_of_getElem? (i := 54) rfl))) (mvT hZ (hw _ (List.mem_of_getElem? (i := 53) rfl))) (by decide) (backOf (W := 0) (rm9 l Z a0 hw [] f1  T327.heap n0 Z327 Fb327) hZ (hw _ (List.mem_of_getElem? (i := 55) rfl)) (hw _ (List.mem_of_getElem? (i := 24) rfl)) (by decide) (by decide)) q342a q342c (g := (mkF m 120 #[.val (.int p1), .val (.long q2), .second, .val (.int p3), .val (.int p4), .val (.int p5), .val (.ref b1), .val (.int (2 : Int32)), .val (.ref f1)] [(.ref f1)])) rfl (by rw [hml]; rfl) (Steps.refl _) (argsL := []) (rest := []) (lenOf pd_12 rfl) rfl (by show 2 * 0 + _ ≤ _; exact Nat.le_of_eq rfl) (hb hby at_120) (fun _ _ => ⟨rfl, e336, (by decide : 4 + 0 ≤ _), (by decide : 10 + 0 ≤ _)⟩)
    dsimp only [Pt.U, Pt.locs, Pt.cells, Pt.slots] at X341 l341 y341 z341 st341 hQ341
    subst l341 y341 z341
    obtain ⟨rfl, M341, e341⟩ := hQ341
    have N341 := Fr.app N336 M341
    have R343 : ∀ t, Steps p.tables e below (T341.setTop (mkF m 123 #[.val (.int p1), .val (.long q2), .second, .val (.int p3), .val (.int p4), .val (.int p5), .val (.ref b1), .val (.int (2 : Int32)), .val (.ref f1)] [(.int (1 : Int32))])) t → Steps p.tables e below (s₁.setTop (mkF m 0 #[.val (.int p1), .val (.long q2), .second, .val (.int p3), .val (.int p4), .val (.int p5), .unset, .unset, .unset] [])) t := fun t k => R340 t (st341.trans k)
    have R344 : ∀ t, Steps p.tables e below (T341.setTop (mkF m 126 #[.val (.int p1), .val (.long q2), .second, .val (.int p3), .val (.int p4), .val (.int p5), .val (.ref b1), .val (.int (2 : Int32)), .val (.ref f1)] [])) t → Steps p.tables e below (s₁.setTop (mkF m 0 #[.val (.int p1), .val (.long q2), .second, .val (.int p3), .val (.int p4), .val (.int p5), .unset, .unset, .unset] [])) t := by
      intro t k
      refine R343 t ?_
      refine XS.ifNo X341.here hx rfl (hb hby at_123) rfl ((if0 _ _).trans (feq (by decide)).1) ?_
      exact k
    have R345 : ∀ t, Steps p.tables e below (T341.setTop (mkF m 131 #[.val (.int p1), .val (.long q2), .second, .val (.int p3), .val (.int p4), .val (.int p5), .val (.ref b1), .val (.int (2 : Int32)), .val (.ref f1)] [(.int (1 : Int32))])) t → Steps p.tables e below (s₁.setTop (mkF m 0 #[.val (.int p1), .val (.long q2), .second, .val (.int p3), .val (.int p4), .val (.int p5), .unset, .unset, .unset] [])) t := by
      intro t k
      refine R344 t ?_
      refine XS.iconst X341.here hx rfl (hb hby at_126) ?_
      refine XS.goto X341.here hx rfl (pc0 := 127) (pc' := 131) rfl (hb hby at_127) (by decide) (by decide) ?_
      exact k
    obtain ⟨fs, hr, hrun, hended, hv1, hv2, hv3, hv4⟩ := X341.leaveW (s := s) (vm₁ := s.vm) ((State.WarmedH.refl s).since 0) (by rw [show T341.heap = T327.heap from e341]; exact Y327) (v := some (.int (1 : Int32))) (fun h => by rw [Bd.returns] at h; cases h)
    refine ⟨_, _, pre0 _ (R345 _ (retN X341 hx (t := .boolean) Bd.returns (by simp) (hb hby at_131) hr)), hrun, hended, _, _, rfl, ?_, hv1, hv2, hv3, hv4.mono (by decide) (by decide)⟩
    show Q_rm0 Z p1 q2 p3 p4 p5 cs ci cli cj clj h0 n0 _ T341.heap _
    rw [e341]
    exact ⟨rfl, N341⟩
  · have R346 : ∀ t, Steps p.tables e below (s₁.setTop (mkF m 8 #[.val (.int p1), .val (.long q2), .second, .val (.int p3), .val (.int p4), .val (.int p5), .unset, .val (.int (3 : Int32)), .unset] [(.int (3 : Int32))])) t → Steps p.tables e below (s₁.setTop (mkF m 0 #[.val (.int p1), .val (.long q2), .second, .val (.int p3), .val (.int p4), .val (.int p5), .unset, .unset, .unset] [])) t := by
      intro t k
      refine R241 t ?_
      refine XS.iload X0.here hx rfl (hb hby at_6) rfl ?_
      exact k
    have R347 : ∀ t, Steps p.tables e below (s₁.setTop (mkF m 20 #[.val (.int p1), .val (.long q2), .second, .val (.int p3), .val (.int p4), .val (.int p5), .unset, .val (.int (3 : Int32)), .unset] [])) t → Steps p.tables e below (s₁.setTop (mkF m 0 #[.val (.int p1), .val (.long q2), .second, .val (.int p3), .val (.int p4), .val (.int p5), .unset, .unset, .unset] [])) t := by
      intro t k
      refine R346 t ?_
      refine XS.ifYes X0.here hx rfl (pc0 := 8) (pc' := 20) rfl (hb hby at_8) rfl ((if0 _ _).trans (feq (by decide)).2) (by decide) (by decide) ?_
      exact k
    have R348 : ∀ t, Steps p.tables e below (s₁.setTop (mkF m 23 #[.val (.int p1), .val (.long q2), .second, .val (.int p3), .val (.int p4), .val (.int p5), .unset, .val (.int (3 : Int32)), .unset] [(.int (1 : Int32)), (.int (3 : Int32))])) t → Steps p.tables e below (s₁.setTop (mkF m 0 #[.val (.int p1), .val (.long q2), .second, .val (.int p3), .val (.int p4), .val (.int p5), .unset, .unset, .unset] [])) t := by
      intro t k
      refine R347 t ?_
      refine XS.iload X0.here hx rfl (hb hby at_20) rfl ?_
      refine XS.iconst X0.here hx rfl (hb hby at_22) ?_
      exact k
    have R349 : ∀ t, Steps p.tables e below (s₁.setTop (mkF m 35 #[.val (.int p1), .val (.long q2), .second, .val (.int p3), .val (.int p4), .val (.int p5), .unset, .val (.int (3 : Int32)), .unset] [])) t → Steps p.tables e below (s₁.setTop (mkF m 0 #[.val (.int p1), .val (.long q2), .second, .val (.int p3), .val (.int p4), .val (.int p5), .unset, .unset, .unset] [])) t := by
      intro t k
      refine R348 t ?_
      refine XS.icmpYes X0.here hx rfl (pc0 := 23) (pc' := 35) rfl (hb hby at_23) rfl (feq (by decide)).2 (by decide) (by decide) ?_
      exact k
    have R350 : ∀ t, Steps p.tables e below (s₁.setTop (mkF m 38 #[.val (.int p1), .val (.long q2), .second, .val (.int p3), .val (.int p4), .val (.int p5), .unset, .val (.int (3 : Int32)), .unset] [(.int (2 : Int32)), (.int (3 : Int32))])) t → Steps p.tables e below (s₁.setTop (mkF m 0 #[.val (.int p1), .val (.long q2), .second, .val (.int p3), .val (.int p4), .val (.int p5), .unset, .unset, .unset] [])) t := by
      intro t k
      refine R349 t ?_
      refine XS.iload X0.here hx rfl (hb hby at_35) rfl ?_
      refine XS.iconst X0.here hx rfl (hb hby at_37) ?_
      exact k
    have R351 : ∀ t, Steps p.tables e below (s₁.setTop (mkF m 81 #[.val (.int p1), .val (.long q2), .second, .val (.int p3), .val (.int p4), .val (.int p5), .unset, .val (.int (3 : Int32)), .unset] [])) t → Steps p.tables e below (s₁.setTop (mkF m 0 #[.val (.int p1), .val (.long q2), .second, .val (.int p3), .val (.int p4), .val (.int p5), .unset, .unset, .unset] [])) t := by
      intro t k
      refine R350 t ?_
      refine XS.icmpYes X0.here hx rfl (pc0 := 38) (pc' := 81) rfl (hb hby at_38) rfl (feq (by decide)).2 (by decide) (by decide) ?_
      exact k
    obtain ⟨T352, h352, X352, e352, x352, A352, D352, -, st352⟩ := newO X0 hx hZ hown (hw _ (List.mem_of_getElem? (i := 0) rfl)) (hw _ (List.mem_of_getElem? (i := 1) rfl)) (hw _ (List.mem_of_getElem? (i := 2) rfl)) e0 (g := (mkF m 81 #[.val (.int p1), .val (.long q2), .second, .val (.int p3), .val (.int p4), .val (.int p5), .unset, .val (.int (3 : Int32)), .unset] [])) rfl (hb hby at_81) (by decide) (by decide)
    obtain ⟨b1, g_b1⟩ : ∃ z, z = h0.size := ⟨_, rfl⟩
    rw [← g_b1] at A352 D352 st352
    have n_b1 : n0 ≤ b1 := Nat.le_trans Z0 (Nat.le_of_eq g_b1.symm)
    have Z352 : n0 ≤ h352.size := Nat.le_trans Z0 x352.1
    have Y352 : 0 ≤ h352.size := Nat.le_trans (Nat.zero_le _) x352.1
    have O_353 : Ext Z.heap h352 := ⟨Nat.le_trans O_0.1 x352.1, fun a c q => x352.2 a c (O_0.2 a c q)⟩
    have F_354 : Fld Z h352 b1 "java/lang/String" "value" "[B" .null := D352 (Or.inr (hw _ (List.mem_of_getElem? (i := 16) rfl))) (ty := (.array .byte)) (by decide)
    have F_355 : Fld Z h352 b1 "java/lang/String" "coder" "B" (.int (0 : Int32)) := D352 (Or.inr (hw _ (List.mem_of_getElem? (i := 17) rfl))) (ty := .byte) (by decide)
    have R356 : ∀ t, Steps p.tables e below (T352.setTop (mkF m 84 #[.val (.int p1), .val (.long q2), .second, .val (.int p3), .val (.int p4), .val (.int p5), .unset, .val (.int (3 : Int32)), .unset] [(.ref b1)])) t → Steps p.tables e below (s₁.setTop (mkF m 0 #[.val (.int p1), .val (.long q2), .second, .val (.int p3), .val (.int p4), .val (.int p5), .unset, .unset, .unset] [])) t := fun t k => R351 t (st352 _ k)
    have R357 : ∀ t, Steps p.tables e below (T352.setTop (mkF m 86 #[.val (.int p1), .val (.long q2), .second, .val (.int p3), .val (.int p4), .val (.int p5), .unset, .val (.int (3 : Int32)), .unset] [(.int (0 : Int32)), (.ref b1), (.ref b1)])) t → Steps p.tables e below (s₁.setTop (mkF m 0 #[.val (.int p1), .val (.long q2), .second, .val (.int p3), .val (.int p4), .val (.int p5), .unset, .unset, .unset] [])) t := by
      intro t k
      refine R356 t ?_
      refine XS.dup X352.here hx rfl (hb hby at_84) rfl rfl ?_
      refine XS.iconst X352.here hx rfl (hb hby at_85) ?_
      exact k
    obtain ⟨T358, h358, c358, X358, e358, x358, B358, st358⟩ := newP X352 hx hZ (hw _ (List.mem_of_getElem? (i := 3) rfl)) e352 (g := (mkF m 86 #[.val (.int p1), .val (.long q2), .second, .val (.int p3), .val (.int p4), .val (.int p5), .unset, .val (.int (3 : Int32)), .unset] [(.int (0 : Int32)), (.ref b1), (.ref b1)])) rfl (hb hby at_86) rfl (by decide) (cap := 0) (by decide) (by decide) (by decide) (by decide)
    obtain ⟨t1, g_t1⟩ : ∃ z, z = h352.size := ⟨_, rfl⟩
    rw [← g_t1] at B358 st358
    have ne_b1_t1 : b1 ≠ t1 := Nat.ne_of_lt (Nat.lt_of_lt_of_eq A352.lt g_t1.symm)
    have n_t1 : n0 ≤ t1 := Nat.le_trans Z352 (Nat.le_of_eq g_t1.symm)
    have Z358 : n0 ≤ h358.size := Nat.le_trans Z352 x358.1
    have Y358 : 0 ≤ h358.size := Nat.le_trans Y352 x358.1
    have O_359 : Ext Z.heap h358 := ⟨Nat.le_trans O_353.1 x358.1, fun a c q => x358.2 a c (O_353.2 a c q)⟩
    have E_360 : Exa Z h358 b1 "java/lang/String" := A352.ext x358
    have F_361 : Fld Z h358 b1 "java/lang/String" "value" "[B" .null := F_354.ext x358
    have F_362 : Fld Z h358 b1 "java/lang/String" "coder" "B" (.int (0 : Int32)) := F_355.ext x358
    have V358 : Arv Z h358 t1 c358 .char (0 : Int32) [] (.int (0 : Int32)) := (Arv.new B358 (by decide)).pad (pad_rep [] (.int (0 : Int32)) 0)
    have R363 : ∀ t, Steps p.tables e below (T358.setTop (mkF m 88 #[.val (.int p1), .val (.long q2), .second, .val (.int p3), .val (.int p4), .val (.int p5), .unset, .val (.int (3 : Int32)), .unset] [(.ref t1), (.ref b1), (.ref b1)])) t → Steps p.tables e below (s₁.setTop (mkF m 0 #[.val (.int p1), .val (.long q2), .second, .val (.int p3), .val (.int p4), .val (.int p5), .unset, .unset, .unset] [])) t := fun t k => R357 t (st358 _ k)
    obtain ⟨_, _, ⟨T364, L364, k364, n364⟩, -, X364, hS364, hg364, ⟨Lc364, hQ364, l364, y364, z364⟩, st364⟩ := X358.specialBackS hx (y := (⟨"java/lang/String", "<init>", "([C)V"⟩ : MethodName)) rfl hown (mvT hZ (hw _ (List.mem_of_getElem? (i := 4) rfl))) (mvT hZ (hw _ (List.mem_of_getElem? (i := 5) rfl))) (mvT hZ (hw _ (List.mem_of_getElem? (i := 6) rfl))) (by decide) (own_backS (W := 1) (rmi1z l Z a0 hw [] b1 t1 .null (.int (0 : Int32)) c358 h358 n0 Z358 E_360 F_361 F_362 n_b1 V358 (Ne.symm ne_b1_t1) O_359 hheld hcw) hZ hint (hw _ (List.mem_of_getElem? (i := 6) rfl)) (hw _ (List.mem_of_getElem? (i := 2) rfl)) (by decide) (by decide)) (g := (mkF m 88 #[.val (.int p1), .val (.long q2), .second, .val (.int p3), .val (.int p4), .val (.int p5), .unset, .val (.int (3 : Int32)), .unset] [(.ref t1), (.ref b1), (.ref b1)])) rfl (by rw [hml]; rfl) (Steps.refl _) (a := b1) (argsL := [(.ref t1)]) (rest := [(.ref b1)]) (lenOf pd_14 rfl) rfl (by show 2 * 0 + _ ≤ _; exact Nat.le_of_eq rfl) (hb hby at_88) (fun _ _ => ⟨rfl, e358, (by decide : 2 + 2 ≤ _), (by decide : 4 + 4 ≤ _)⟩)
    dsimp only [Pt.U, Pt.locs, Pt.cells, Pt.slots] at X364 l364 y364 z364 st364 hQ364
    subst l364 y364 z364
    have hZ364 : Z.Warmed39 (s.setVm T364.vm).vm := State.Warmed39.trans (t := s) hZ hS364.1
    have ho364 : (s.setVm T364.vm).vm.findClass "com/example/underwright/underwright/eligibility/FactOfPinLaw" = some m.cls := by rw [show (s.setVm T364.vm).vm = T364.vm from rfl, hS364.1.alike.findClass]; exact hown
    obtain ⟨rfl, M364, J364⟩ := hQ364
    have Z364 : n0 ≤ T364.heap.size := Nat.le_trans Z358 J364.1
    have E_365 : Exa Z T364.heap b1 "java/lang/String" := E_360.keep J364
    have A_366 : Arv Z T364.heap t1 c358 .char (0 : Int32) [] (.int (0 : Int32)) := V358.keep J364 (ninS (Ne.symm ne_b1_t1) nin0)
    have N364 := Fr.app N0 M364
    have R367 : ∀ t, Steps p.tables e below (T364.setTop (mkF m 91 #[.val (.int p1), .val (.long q2), .second, .val (.int p3), .val (.int p4), .val (.int p5), .unset, .val (.int (3 : Int32)), .unset] [(.ref b1)])) t → Steps p.tables e below (s₁.setTop (mkF m 0 #[.val (.int p1), .val (.long q2), .second, .val (.int p3), .val (.int p4), .val (.int p5), .unset, .unset, .unset] [])) t := fun t k => R363 t (st364.trans k)
    have R368 : ∀ t, Steps p.tables e below (T364.setTop (mkF m 95 #[.val (.int p1), .val (.long q2), .second, .val (.int p3), .val (.int p4), .val (.int p5), .val (.ref b1), .val (.int (3 : Int32)), .unset] [(.ref b1)])) t → Steps p.tables e below (s₁.setTop (mkF m 0 #[.val (.int p1), .val (.long q2), .second, .val (.int p3), .val (.int p4), .val (.int p5), .unset, .unset, .unset] [])) t := by
      intro t k
      refine R367 t ?_
      refine XS.astore X364.here hx rfl (hb hby at_91) rfl rfl (l' := #[.val (.int p1), .val (.long q2), .second, .val (.int p3), .val (.int p4), .val (.int p5), .val (.ref b1), .val (.int (3 : Int32)), .unset]) rfl ?_
      refine XS.aload X364.here hx rfl (hb hby at_93) rfl rfl ?_
      exact k
    obtain ⟨_, _, ⟨T369, L369, k369, n369⟩, -, X369, ⟨Lc369, hQ369, l369, y369, z369⟩, st369⟩ := Jvm.LawKit.callS X364 hx (y := (⟨"com/example/underwright/underwright/eligibility/Fact", "of", "(Ljava/lang/Object;)Lcom/example/underwright/underwright/eligibility/Fact;"⟩ : MethodName)) ho364 (mvT hZ364 (hw _ (List.mem_of_getElem? (i := 22) rfl))) (mvT hZ364 (hw _ (List.mem_of_getElem? (i := 23) rfl))) (mvT hZ364 (hw _ (List.mem_of_getElem? (i := 24) rfl))) (mvT hZ364 (hw _ (List.mem_of_getElem? (i := 25) rfl))) (by decide) (backOf (W := 0) (rm4 l Z a0 hw [] b1  T364.heap n0 Z364 ) hZ364 (hw _ (List.mem_of_getElem? (i := 25) rfl)) (hw _ (List.mem_of_getElem? (i := 24) rfl)) (by decide) (by decide)) (g := (mkF m 95 #[.val (.int p1), .val (.long q2), .second, .val (.int p3), .val (.int p4), .val (.int p5), .val (.ref b1), .val (.int (3 : Int32)), .unset] [(.ref b1)])) rfl (by rw [hml]; rfl) (argsL := [(.ref b1)]) (rest := []) (lenOf pd_9 rfl) rfl (by show 2 * 0 + _ ≤ _; exact Nat.le_of_eq rfl) (hb hby at_95) (fun _ _ => ⟨rfl, rfl, (by decide : 4 + 1 ≤ _), (by decide : 8 + 2 ≤ _)⟩)
    dsimp only [Pt.U, Pt.locs, Pt.cells, Pt.slots] at X369 l369 y369 z369 st369 hQ369
    subst l369 y369 z369
    obtain ⟨f1, rfl, M369, J369, zf369, Eo369, Fa369, Fb369⟩ := hQ369
    have Z369 : n0 ≤ T369.heap.size := Nat.le_trans Z364 J369.1
    have Y369 : T364.heap.size ≤ T369.heap.size := Nat.le_trans (Nat.le_refl _) J369.1
    have n_f1 : n0 ≤ f1 := Nat.le_trans Z364 zf369
    have N369 := Fr.app N364 M369
    have R370 : ∀ t, Steps p.tables e below (T369.setTop (mkF m 98 #[.val (.int p1), .val (.long q2), .second, .val (.int p3), .val (.int p4), .val (.int p5), .val (.ref b1), .val (.int (3 : Int32)), .unset] [(.ref f1)])) t → Steps p.tables e below (s₁.setTop (mkF m 0 #[.val (.int p1), .val (.long q2), .second, .val (.int p3), .val (.int p4), .val (.int p5), .unset, .unset, .unset] [])) t := fun t k => R368 t (st369 _ k)
    have R371 : ∀ t, Steps p.tables e below (T369.setTop (mkF m 102 #[.val (.int p1), .val (.long q2), .second, .val (.int p3), .val (.int p4), .val (.int p5), .val (.ref b1), .val (.int (3 : Int32)), .val (.ref f1)] [(.ref f1)])) t → Steps p.tables e below (s₁.setTop (mkF m 0 #[.val (.int p1), .val (.long q2), .second, .val (.int p3), .val (.int p4), .val (.int p5), .unset, .unset, .unset] [])) t := by
      intro t k
      refine R370 t ?_
      refine XS.astore X369.here hx rfl (hb hby at_98) rfl rfl (l' := #[.val (.int p1), .val (.long q2), .second, .val (.int p3), .val (.int p4), .val (.int p5), .val (.ref b1), .val (.int (3 : Int32)), .val (.ref f1)]) rfl ?_
      refine XS.aload X369.here hx rfl (hb hby at_100) rfl rfl ?_
      exact k
    obtain ⟨_, _, q373a, q373b, q373c⟩ := isOf hZ364 rfl Eo369
    obtain ⟨_, _, ⟨T372, L372, k372, n372⟩, -, X372, ⟨Lc372, hQ372, l372, y372, z372⟩, st372⟩ := X369.virtualBack hx (y := (⟨"com/example/underwright/underwright/eligibility/Fact", "value", "()Ljava/lang/Object;"⟩ : MethodName)) (z := (⟨"com/example/underwright/underwright/eligibility/Fact", "value", "()Ljava/lang/Object;"⟩ : MethodName)) ho364 (mvT hZ364 (hw _ (List.mem_of_getElem? (i := 41) rfl))) (mvT hZ364 (hw _ (List.mem_of_getElem? (i := 42) rfl))) (notFace_of_selects (args := #[]) (mvT hZ364 (hw _ (List.mem_of_getElem? (i := 44) rfl)))) (mvT hZ364 (hw _ (List.mem_of_getElem? (i := 44) rfl))) (mvT hZ364 (hw _ (List.mem_of_getElem? (i := 43) rfl))) (by decide) (backOf (W := 0) (rm7 l Z a0 hw [] f1 b1 T369.heap n0 Z369 Fa369) hZ364 (hw _ (List.mem_of_getElem? (i := 45) rfl)) (hw _ (List.mem_of_getElem? (i := 24) rfl)) (by decide) (by decide)) q373a q373c (g := (mkF m 102 #[.val (.int p1), .val (.long q2), .second, .val (.int p3), .val (.int p4), .val (.int p5), .val (.ref b1), .val (.int (3 : Int32)), .val (.ref f1)] [(.ref f1)])) rfl (by rw [hml]; rfl) (Steps.refl _) (argsL := []) (rest := []) (lenOf pd_10 rfl) rfl (by show 2 * 0 + _ ≤ _; exact Nat.le_of_eq rfl) (hb hby at_102) (fun _ _ => ⟨rfl, rfl, (by decide : 5 + 0 ≤ _), (by decide : 10 + 0 ≤ _)⟩)
    dsimp only [Pt.U, Pt.locs, Pt.cells, Pt.slots] at X372 l372 y372 z372 st372 hQ372
    subst l372 y372 z372
    obtain ⟨rfl, M372, e372⟩ := hQ372
    have N372 := Fr.app N369 M372
    have R374 : ∀ t, Steps p.tables e below (T372.setTop (mkF m 105 #[.val (.int p1), .val (.long q2), .second, .val (.int p3), .val (.int p4), .val (.int p5), .val (.ref b1), .val (.int (3 : Int32)), .val (.ref f1)] [(.ref b1)])) t → Steps p.tables e below (s₁.setTop (mkF m 0 #[.val (.int p1), .val (.long q2), .second, .val (.int p3), .val (.int p4), .val (.int p5), .unset, .unset, .unset] [])) t := fun t k => R371 t (st372.trans k)
    have R375 : ∀ t, Steps p.tables e below (T372.setTop (mkF m 107 #[.val (.int p1), .val (.long q2), .second, .val (.int p3), .val (.int p4), .val (.int p5), .val (.ref b1), .val (.int (3 : Int32)), .val (.ref f1)] [(.ref b1), (.ref b1)])) t → Steps p.tables e below (s₁.setTop (mkF m 0 #[.val (.int p1), .val (.long q2), .second, .val (.int p3), .val (.int p4), .val (.int p5), .unset, .unset, .unset] [])) t := by
      intro t k
      refine R374 t ?_
      refine XS.aload X372.here hx rfl (hb hby at_105) rfl rfl ?_
      exact k
    have R376 : ∀ t, Steps p.tables e below (T372.setTop (mkF m 110 #[.val (.int p1), .val (.long q2), .second, .val (.int p3), .val (.int p4), .val (.int p5), .val (.ref b1), .val (.int (3 : Int32)), .val (.ref f1)] [])) t → Steps p.tables e below (s₁.setTop (mkF m 0 #[.val (.int p1), .val (.long q2), .second, .val (.int p3), .val (.int p4), .val (.int p5), .unset, .unset, .unset] [])) t := by
      intro t k
      refine R375 t ?_
      refine Jvm.RoadKit.acmp (g := (mkF m 107 #[.val (.int p1), .val (.long q2), .second, .val (.int p3), .val (.int p4), .val (.int p5), .val (.ref b1), .val (.int (3 : Int32)), .val (.ref f1)] [(.ref b1), (.ref b1)])) X372 hx rfl rfl rfl (pc0 := 107) (pc' := 110) (same := true) rfl (hb hby at_107) rfl (decide_eq_true (congrArg Value.ref (rfl))) (by decide) (by decide) ?_
      exact k
    have R377 : ∀ t, Steps p.tables e below (T372.setTop (mkF m 112 #[.val (.int p1), .val (.long q2), .second, .val (.int p3), .val (.int p4), .val (.int p5), .val (.ref b1), .val (.int (3 : Int32)), .val (.ref f1)] [(.ref f1)])) t → Steps p.tables e below (s₁.setTop (mkF m 0 #[.val (.int p1), .val (.long q2), .second, .val (.int p3), .val (.int p4), .val (.int p5), .unset, .unset, .unset] [])) t := by
      intro t k
      refine R376 t ?_
      refine XS.aload X372.here hx rfl (hb hby at_110) rfl rfl ?_
      exact k
    obtain ⟨_, _, q379a, q379b, q379c⟩ := isOf hZ364 e372 Eo369
    obtain ⟨_, _, ⟨T378, L378, k378, n378⟩, -, X378, ⟨Lc378, hQ378, l378, y378, z378⟩, st378⟩ := X372.virtualBack hx (y := (⟨"com/example/underwright/underwright/eligibility/Fact", "unknown", "()Lcom/example/underwright/underwright/eligibility/Unknown;"⟩ : MethodName)) (z := (⟨"com/example/underwright/underwright/eligibility/Fact", "unknown", "()Lcom/example/underwright/underwright/eligibility/Unknown;"⟩ : MethodName)) ho364 (mvT hZ364 (hw _ (List.mem_of_getElem? (i := 46) rfl))) (mvT hZ364 (hw _ (List.mem_of_getElem? (i := 47) rfl))) (notFace_of_selects (args := #[]) (mvT hZ364 (hw _ (List.mem_of_getElem? (i := 49) rfl)))) (mvT hZ364 (hw _ (List.mem_of_getElem? (i := 49) rfl))) (mvT hZ364 (hw _ (List.mem_of_getElem? (i := 48) rfl))) (by decide) (backOf (W := 0) (rm8 l Z a0 hw [] f1  T369.heap n0 Z369 Fb369) hZ364 (hw _ (List.mem_of_getElem? (i := 50) rfl)) (hw _ (List.mem_of_getElem? (i := 24) rfl)) (by decide) (by decide)) q379a q379c (g := (mkF m 112 #[.val (.int p1), .val (.long q2), .second, .val (.int p3), .val (.int p4), .val (.int p5), .val (.ref b1), .val (.int (3 : Int32)), .val (.ref f1)] [(.ref f1)])) rfl (by rw [hml]; rfl) (Steps.refl _) (argsL := []) (rest := []) (lenOf pd_11 rfl) rfl (by show 2 * 0 + _ ≤ _; exact Nat.le_of_eq rfl) (hb hby at_112) (fun _ _ => ⟨rfl, e372, (by decide : 5 + 0 ≤ _), (by decide : 10 + 0 ≤ _)⟩)
    dsimp only [Pt.U, Pt.locs, Pt.cells, Pt.slots] at X378 l378 y378 z378 st378 hQ378
    subst l378 y378 z378
    obtain ⟨rfl, M378, e378⟩ := hQ378
    have N378 := Fr.app N372 M378
    have R380 : ∀ t, Steps p.tables e below (T378.setTop (mkF m 115 #[.val (.int p1), .val (.long q2), .second, .val (.int p3), .val (.int p4), .val (.int p5), .val (.ref b1), .val (.int (3 : Int32)), .val (.ref f1)] [.null])) t → Steps p.tables e below (s₁.setTop (mkF m 0 #[.val (.int p1), .val (.long q2), .second, .val (.int p3), .val (.int p4), .val (.int p5), .unset, .unset, .unset] [])) t := fun t k => R377 t (st378.trans k)
    have R381 : ∀ t, Steps p.tables e below (T378.setTop (mkF m 118 #[.val (.int p1), .val (.long q2), .second, .val (.int p3), .val (.int p4), .val (.int p5), .val (.ref b1), .val (.int (3 : Int32)), .val (.ref f1)] [])) t → Steps p.tables e below (s₁.setTop (mkF m 0 #[.val (.int p1), .val (.long q2), .second, .val (.int p3), .val (.int p4), .val (.int p5), .unset, .unset, .unset] [])) t := by
      intro t k
      refine R380 t ?_
      refine XS.ifnonnullNo X378.here hx rfl (hb hby at_115) rfl ?_
      exact k
    have R382 : ∀ t, Steps p.tables e below (T378.setTop (mkF m 120 #[.val (.int p1), .val (.long q2), .second, .val (.int p3), .val (.int p4), .val (.int p5), .val (.ref b1), .val (.int (3 : Int32)), .val (.ref f1)] [(.ref f1)])) t → Steps p.tables e below (s₁.setTop (mkF m 0 #[.val (.int p1), .val (.long q2), .second, .val (.int p3), .val (.int p4), .val (.int p5), .unset, .unset, .unset] [])) t := by
      intro t k
      refine R381 t ?_
      refine XS.aload X378.here hx rfl (hb hby at_118) rfl rfl ?_
      exact k
    obtain ⟨_, _, q384a, q384b, q384c⟩ := isOf hZ364 e378 Eo369
    obtain ⟨_, _, ⟨T383, L383, k383, n383⟩, -, X383, ⟨Lc383, hQ383, l383, y383, z383⟩, st383⟩ := X378.virtualBack hx (y := (⟨"com/example/underwright/underwright/eligibility/Fact", "isKnown", "()Z"⟩ : MethodName)) (z := (⟨"com/example/underwright/underwright/eligibility/Fact", "isKnown", "()Z"⟩ : MethodName)) ho364 (mvT hZ364 (hw _ (List.mem_of_getElem? (i := 51) rfl))) (mvT hZ364 (hw _ (List.mem_of_getElem? (i := 52) rfl))) (notFace_of_selects (args := #[]) (mvT hZ364 (hw _ (List.mem_of_getElem? (i := 54) rfl)))) (mvT hZ364 (hw _ (List.mem_of_getElem? (i := 54) rfl))) (mvT hZ364 (hw _ (List.mem_of_getElem? (i := 53) rfl))) (by decide) (backOf (W := 0) (rm9 l Z a0 hw [] f1  T369.heap n0 Z369 Fb369) hZ364 (hw _ (List.mem_of_getElem? (i := 55) rfl)) (hw _ (List.mem_of_getElem? (i := 24) rfl)) (by decide) (by decide)) q384a q384c (g := (mkF m 120 #[.val (.int p1), .val (.long q2), .second, .val (.int p3), .val (.int p4), .val (.int p5), .val (.ref b1), .val (.int (3 : Int32)), .val (.ref f1)] [(.ref f1)])) rfl (by rw [hml]; rfl) (Steps.refl _) (argsL := []) (rest := []) (lenOf pd_12 rfl) rfl (by show 2 * 0 + _ ≤ _; exact Nat.le_of_eq rfl) (hb hby at_120) (fun _ _ => ⟨rfl, e378, (by decide : 5 + 0 ≤ _), (by decide : 10 + 0 ≤ _)⟩)
    dsimp only [Pt.U, Pt.locs, Pt.cells, Pt.slots] at X383 l383 y383 z383 st383 hQ383
    subst l383 y383 z383
    obtain ⟨rfl, M383, e383⟩ := hQ383
    have N383 := Fr.app N378 M383
    have R385 : ∀ t, Steps p.tables e below (T383.setTop (mkF m 123 #[.val (.int p1), .val (.long q2), .second, .val (.int p3), .val (.int p4), .val (.int p5), .val (.ref b1), .val (.int (3 : Int32)), .val (.ref f1)] [(.int (1 : Int32))])) t → Steps p.tables e below (s₁.setTop (mkF m 0 #[.val (.int p1), .val (.long q2), .second, .val (.int p3), .val (.int p4), .val (.int p5), .unset, .unset, .unset] [])) t := fun t k => R382 t (st383.trans k)
    have R386 : ∀ t, Steps p.tables e below (T383.setTop (mkF m 126 #[.val (.int p1), .val (.long q2), .second, .val (.int p3), .val (.int p4), .val (.int p5), .val (.ref b1), .val (.int (3 : Int32)), .val (.ref f1)] [])) t → Steps p.tables e below (s₁.setTop (mkF m 0 #[.val (.int p1), .val (.long q2), .second, .val (.int p3), .val (.int p4), .val (.int p5), .unset, .unset, .unset] [])) t := by
      intro t k
      refine R385 t ?_
      refine XS.ifNo X383.here hx rfl (hb hby at_123) rfl ((if0 _ _).trans (feq (by decide)).1) ?_
      exact k
    have R387 : ∀ t, Steps p.tables e below (T383.setTop (mkF m 131 #[.val (.int p1), .val (.long q2), .second, .val (.int p3), .val (.int p4), .val (.int p5), .val (.ref b1), .val (.int (3 : Int32)), .val (.ref f1)] [(.int (1 : Int32))])) t → Steps p.tables e below (s₁.setTop (mkF m 0 #[.val (.int p1), .val (.long q2), .second, .val (.int p3), .val (.int p4), .val (.int p5), .unset, .unset, .unset] [])) t := by
      intro t k
      refine R386 t ?_
      refine XS.iconst X383.here hx rfl (hb hby at_126) ?_
      refine XS.goto X383.here hx rfl (pc0 := 127) (pc' := 131) rfl (hb hby at_127) (by decide) (by decide) ?_
      exact k
    obtain ⟨fs, hr, hrun, hended, hv1, hv2, hv3, hv4⟩ := X383.leaveW hS364 (by rw [show T383.heap = T369.heap from e383]; exact Y369) (v := some (.int (1 : Int32))) (fun h => by rw [Bd.returns] at h; cases h)
    refine ⟨_, _, pre0 _ (R387 _ (retN X383 hx (t := .boolean) Bd.returns (by simp) (hb hby at_131) hr)), hrun, hended, _, _, rfl, ?_, hv1, hv2, hv3, hv4.mono (by decide) (by decide)⟩
    show Q_rm0 Z p1 q2 p3 p4 p5 cs ci cli cj clj h0 n0 _ T383.heap _
    rw [e383]
    exact ⟨rfl, N383⟩
set_option maxRecDepth 65536 in
set_option maxHeartbeats 40000000 in
theorem comes_1 {Post : Tables → Env → Array Value → State → Outcome → State → Prop} (hpost : ∀ tb e args s v u, (limb_1_1.after args s (.returned v) u = true ∧ limb_1_2.after args s (.returned v) u = true ∧ True) → ReturnedEndW s (.returned v) u (Jvm.fieldLocs frame_1_writes args s ++ Jvm.arrayLocs frame_1_arrays args s ++ Jvm.staticLocs frame_1_statics s) 24 1152 → Post tb e args s (.returned v) u) :
    ArmFor flags0 classFile x code maxLocals ret World_1 tables_1 room_1 Calls_1 rest_1 Pre_1 Post := by
  intro l hfl _ _ p e ha hc hk s m args below hf hA hF happ hP
  obtain ⟨hcalls, hrest, hpre⟩ := hP
  obtain ⟨-, -, -, hnamed, -, -, -, hat⟩ := (Spec.applies_iff hf).mp happ
  obtain ⟨hg, hn⟩ := and_e (Cond.before_iff.mp (show (Jvm.Cond.and given_1 narrow_1).before args s = true from hpre))
  obtain ⟨g0, r0⟩ := and_e hg
  obtain ⟨g1, r1⟩ := and_e r0
  obtain ⟨g2, r2⟩ := and_e r1
  obtain ⟨g3, r3⟩ := and_e r2
  obtain ⟨g4, r4⟩ := and_e r3
  obtain ⟨w0, w1, w2, w3, w4, rfl⟩ : ∃ w0 w1 w2 w3 w4 : Value, args = #[w0, w1, w2, w3, w4] := by
    have hs : args.size = 5 := by simpa [Cond.value, given_1] using g0
    obtain ⟨L⟩ := args
    match L, hs with
    | [w0, w1, w2, w3, w4], _ => exact ⟨w0, w1, w2, w3, w4, rfl⟩
  have hw := fun d (hd : d ∈ tables_1) => atoms_spec (ws := Jvm.Cond.code x code maxLocals ret :: tables_1) hat d (List.mem_cons_of_mem _ hd)
  have hfit : Fit s := fun {y c} hc i hi => by
    obtain ⟨ha, rfl⟩ := Array.getElem?_eq_some_iff.mp hc
    have q := List.all_eq_true.mp ((Array.all_eq_true_iff_forall_mem.mp hF) _ (Array.getElem_mem ha)) i (List.mem_range.mpr hi)
    simpa [Array.getElem?_eq_getElem hi] using q
  obtain ⟨i0, ei0⟩ := is_v g1
  obtain rfl : w0 = (.int i0) := Option.some.inj ei0
  obtain ⟨i1, ei1⟩ := isL_v g2
  obtain rfl : w1 = (.long i1) := Option.some.inj ei1
  obtain ⟨i2, ei2⟩ := is_v g3
  obtain rfl : w2 = (.int i2) := Option.some.inj ei2
  obtain ⟨i3, ei3⟩ := is_v g4
  obtain rfl : w3 = (.int i3) := Option.some.inj ei3
  obtain ⟨i4, ei4⟩ := is_v r4
  obtain rfl : w4 = (.int i4) := Option.some.inj ei4
  have hsets := (atoms_of jdkStatics_1 (show (jdkStatics_1.foldr Jvm.Cond.and restOwn_1).before _ s = true from hrest)).1
  have hheld : Jvm.Lit.constHeld s "java/lang/String" 7 := hcalls.1 ("java/lang/String", 7) (by simp [consts_1])
  obtain ⟨cs, ecs⟩ := is_v (Cond.before_iff.mp (hsets _ (List.mem_of_getElem? (i := 1) rfl)))
  have S1 := Sta.start ecs (Or.inl (hsets _ (List.mem_of_getElem? (i := 0) rfl)))
  have hcs : ¬ (cs = (0 : Int32)) := fun q => by
    have h := (Cond.before_iff.mp (hsets _ (List.mem_of_getElem? (i := 2) rfl)))
    simp [Cond.value, ecs, q, Term.int_eval] at h
  have S2 := Sta.start (own_sint hfit (hsets _ (List.mem_of_getElem? (i := 15) rfl)) (hsets _ (List.mem_of_getElem? (i := 18) rfl))) (Or.inl (hsets _ (List.mem_of_getElem? (i := 16) rfl)))
  obtain ⟨ci, eci⟩ := arr_v (Cond.before_iff.mp (hsets _ (List.mem_of_getElem? (i := 19) rfl)))
  obtain ⟨cli, A1⟩ := Arr.start eci (Cond.before_iff.mp (hsets _ (List.mem_of_getElem? (i := 19) rfl)))
  have S3 := Sta.start eci (Or.inr ⟨(hw _ (List.mem_of_getElem? (i := 80) rfl)), (hsets _ (List.mem_of_getElem? (i := 17) rfl))⟩)
  have z1 := own_size eci A1 (hsets _ (List.mem_of_getElem? (i := 21) rfl))
  have el1 := own_el eci A1 z1 (hsets _ (List.mem_of_getElem? (i := 22) rfl))
  obtain ⟨cj, ecj⟩ := arr_v (Cond.before_iff.mp (hsets _ (List.mem_of_getElem? (i := 11) rfl)))
  obtain ⟨clj, A2⟩ := Arr.start ecj (Cond.before_iff.mp (hsets _ (List.mem_of_getElem? (i := 11) rfl)))
  have S4 := Sta.start ecj (Or.inl (hsets _ (List.mem_of_getElem? (i := 10) rfl)))
  have z2 := own_size ecj A2 (hsets _ (List.mem_of_getElem? (i := 13) rfl))
  have el2 := own_el ecj A2 z2 (hsets _ (List.mem_of_getElem? (i := 14) rfl))
  obtain ⟨n, o, h1, h2, h3, _, L, rfl, ⟨rfl, N⟩, hq⟩ := rm0 l s _ hw tables_1 i0 i1 i2 i3 i4 cs ci cli cj clj s.heap s.heap.size (Nat.le_refl _) S1 hcs S2 S3 A1 z1 el1 S4 A2 z2 el2 ⟨Nat.le_refl _, fun _ _ q => q⟩ hheld (hsets _ (List.mem_of_getElem? (i := 2) rfl)) p e ha hc hk s m _ below hf ((Spec.applies_iff_loose hf).mp happ).1 ⟨rfl, State.Warmed39.refl s, rfl, rfl⟩ trivial
  refine ⟨n, _, h1, h2, h3, hpost _ _ _ _ _ _ ⟨Cond.after_iff.mpr rfl, Cond.after_iff.mpr (eq_i res_at (Term.int_eval (1)) rfl), trivial⟩ ⟨hq.1, hq.2.1, hq.2.2.1, (hq.2.2.2.sift fun y hy => Or.inr (N y hy)).mono (by decide) (by decide)⟩⟩
theorem main_1_1 : Claimed_1_1 := comes_1 fun _ _ _ _ _ _ h hF => ⟨h.1, hF⟩
theorem main_1_2 : Claimed_1_2 := comes_1 fun _ _ _ _ _ _ h hF => ⟨h.2.1, hF⟩
end Jvm.Pilot.@@N@@
namespace Jvm.Pilot.@@N@@
open Jvm Jvm.ClassFile Sem Op Lib Jvm.Free Jvm.Stand Jvm.Pilot.@@N@@.Jvm.D
/-! MADE BY PROGRAM (witnessworld.py) out of the Statement's table words and the real class files: 28 classes; the members and pool entries that the words name. The judged class is class 1, her method 1. -/
namespace start1
open Jvm.ClassFile
def u (s : String) : CpInfo := .utf8 (stringToUtf16 s)
/-- a pool by its gaps: so many unusable entries, then the entry; so many at the end -/
def gap : Nat → List CpInfo → List CpInfo
  | 0, r => r
  | n + 1, r => .unusable :: gap n r
def poolList (es : List (Nat × CpInfo)) (last : Nat) : List CpInfo := es.foldr (fun e r => gap e.1 (e.2 :: r)) (gap last [])
def pool (es : List (Nat × CpInfo)) (last : Nat) : Array CpInfo := ⟨poolList es last⟩
def fileOf (pool : Array CpInfo) (this : Nat) (attrs : Array Attribute := #[]) (ms : Array MethodInfo := #[]) (fl : Nat := 33) (sup : Nat := 0) (ifs : Array Nat := #[]) (fds : Array FieldInfo := #[]) : ClassFile where
  minorVersion := 0
  majorVersion := 65
  constantPool := pool
  accessFlags := fl
  thisClass := this
  superClass := sup
  interfaces := ifs
  fields := fds
  methods := ms
  attributes := attrs
def plain (name : String) (sup : Option ClassId) : Class where
  name := name
  kind := .ordinary
  loader := none
  accessFlags := 33
  super := sup
  interfaces := #[]
  cf := none
  fields := #[]
  methods := #[]
  instanceTypes := #[]
  staticTypes := #[]
  resolved := #[]
  callSites := []
  init := .initialized
  statics := none
  mirror := none

def pool0 : Array CpInfo := pool [(5, u "<init>"), (0, u "()V"), (1, .class_ 10), (1, u "java/lang/Object")] 113

def k0c0 : Code := { maxStack := 0, maxLocals := 1, code := object_method_1_code, exceptionTable := #[], attributes := #[] }
def k0m0 : Method := { name := "<init>", desc := "()V", sig := { parameters := [], returnType := none }, accessFlags := 1, code := some k0c0 }
/-- java/lang/Object -/
def k0 : Class := { plain "java/lang/Object" none with
  accessFlags := 33
  interfaces := #[]
  cf := some (fileOf pool0 8 #[] #[{ accessFlags := 1, nameIndex := 5, descriptorIndex := 6, attributes := #[] }] 33 0 #[] #[])
  fields := #[]
  methods := #[k0m0]
  instanceTypes := #[]
  staticTypes := #[]
  resolved := Array.replicate 124 none
  statics := none }

def pool1 : Array CpInfo := pool [(2, .class_ 4), (1, u "java/lang/Object"), (0, u "<init>"), (0, u "()V"), (0, .methodref 8 9), (0, .class_ 10), (0, .nameAndType 11 12), (0, u "java/lang/Integer"), (0, u "valueOf"), (0, u "(I)Ljava/lang/Integer;"), (0, .methodref 14 15), (0, .class_ 16), (0, .nameAndType 11 17), (0, u "java/lang/Long"), (0, u "(J)Ljava/lang/Long;"), (0, .class_ 19), (0, u "java/lang/String"), (0, .methodref 18 21), (0, .nameAndType 5 22), (0, u "([C)V"), (0, .methodref 24 25), (0, .class_ 26), (0, .nameAndType 27 28), (0, u "com/example/underwright/underwright/eligibility/Fact"), (0, u "of"), (0, u "(Ljava/lang/Object;)Lcom/example/underwright/underwright/eligibility/Fact;"), (0, .methodref 24 30), (0, .nameAndType 31 32), (0, u "value"), (0, u "()Ljava/lang/Object;"), (0, .methodref 24 34), (0, .nameAndType 35 36), (0, u "unknown"), (0, u "()Lcom/example/underwright/underwright/eligibility/Unknown;"), (0, .methodref 24 38), (0, .nameAndType 39 40), (0, u "isKnown"), (0, u "()Z"), (0, .class_ 42), (0, u "com/example/underwright/underwright/eligibility/FactOfPinLaw"), (2, u "law"), (0, u "(IJIII)Z")] 3

def k1m0 : Method := { name := "<init>", desc := "()V", sig := { parameters := [], returnType := none }, accessFlags := 1, code := none }
def k1c1 : Code := { maxStack := 4, maxLocals := 9, code := code, exceptionTable := #[], attributes := #[] }
def k1m1 : Method := { name := "law", desc := "(IJIII)Z", sig := { parameters := [.int, .long, .int, .int, .int], returnType := some .boolean }, accessFlags := 9, code := some k1c1 }
/-- com/example/underwright/underwright/eligibility/FactOfPinLaw -/
def k1 : Class := { plain "com/example/underwright/underwright/eligibility/FactOfPinLaw" (some 0) with
  accessFlags := 49
  interfaces := #[]
  cf := some (fileOf pool1 41 #[] #[{ accessFlags := 1, nameIndex := 5, descriptorIndex := 6, attributes := #[] }, { accessFlags := 9, nameIndex := 45, descriptorIndex := 46, attributes := #[] }] 49 2 #[] #[])
  fields := #[]
  methods := #[k1m0, k1m1]
  instanceTypes := #[]
  staticTypes := #[]
  resolved := Array.replicate 50 none
  statics := none }

def pool2 : Array CpInfo := pool [(1, .class_ 2), (0, u "java/io/Serializable"), (0, .class_ 4), (0, u "java/lang/Object")] 2

/-- java/io/Serializable -/
def k2 : Class := { plain "java/io/Serializable" (some 0) with
  accessFlags := 1537
  interfaces := #[]
  cf := some (fileOf pool2 1 #[] #[] 1537 3 #[] #[])
  fields := #[]
  methods := #[]
  instanceTypes := #[]
  staticTypes := #[]
  resolved := Array.replicate 7 none
  statics := none }

def pool3 : Array CpInfo := pool [(1, .class_ 2), (0, u "java/lang/Comparable"), (0, .class_ 4), (0, u "java/lang/Object")] 7

/-- java/lang/Comparable -/
def k3 : Class := { plain "java/lang/Comparable" (some 0) with
  accessFlags := 1537
  interfaces := #[]
  cf := some (fileOf pool3 1 #[] #[] 1537 3 #[] #[])
  fields := #[]
  methods := #[]
  instanceTypes := #[]
  staticTypes := #[]
  resolved := Array.replicate 12 none
  statics := none }

def pool4 : Array CpInfo := pool [(2, .class_ 4), (1, u "java/lang/CharSequence"), (42, .class_ 48), (0, u "java/lang/CharSequence$1CodePointIterator"), (10, .class_ 60), (0, u "java/lang/CharSequence$1CharIterator"), (5, .class_ 67), (0, u "java/lang/Object")] 63

/-- java/lang/CharSequence -/
def k4 : Class := { plain "java/lang/CharSequence" (some 0) with
  accessFlags := 1537
  interfaces := #[]
  cf := some (fileOf pool4 2 #[.nestMembers #[47, 59]] #[] 1537 66 #[] #[])
  fields := #[]
  methods := #[]
  instanceTypes := #[]
  staticTypes := #[]
  resolved := Array.replicate 131 none
  statics := none }

def pool5 : Array CpInfo := pool [(1, .class_ 2), (0, u "java/lang/constant/Constable"), (0, .class_ 4), (0, u "java/lang/Object")] 6

/-- java/lang/constant/Constable -/
def k5 : Class := { plain "java/lang/constant/Constable" (some 0) with
  accessFlags := 1537
  interfaces := #[]
  cf := some (fileOf pool5 1 #[] #[] 1537 3 #[] #[])
  fields := #[]
  methods := #[]
  instanceTypes := #[]
  staticTypes := #[]
  resolved := Array.replicate 11 none
  statics := none }

def pool6 : Array CpInfo := pool [(1, .class_ 2), (0, u "java/lang/constant/ConstantDesc"), (0, .class_ 4), (0, u "java/lang/Object")] 32

/-- java/lang/constant/ConstantDesc -/
def k6 : Class := { plain "java/lang/constant/ConstantDesc" (some 0) with
  accessFlags := 1537
  interfaces := #[]
  cf := some (fileOf pool6 1 #[] #[] 1537 3 #[] #[])
  fields := #[]
  methods := #[]
  instanceTypes := #[]
  staticTypes := #[]
  resolved := Array.replicate 37 none
  statics := none }

def pool7 : Array CpInfo := pool [(1, .methodref 2 3), (0, .class_ 4), (0, .nameAndType 5 6), (0, u "java/lang/Object"), (0, u "<init>"), (0, u "()V"), (0, .string 8), (0, u ""), (0, .fieldref 10 11), (0, .class_ 12), (0, .nameAndType 13 14), (0, u "java/lang/String"), (0, u "value"), (0, u "[B"), (0, .fieldref 10 16), (0, .nameAndType 17 18), (0, u "coder"), (0, u "B"), (2, u "hash"), (0, u "I"), (2, u "hashIsZero"), (0, u "Z"), (0, .methodref 10 28), (0, .nameAndType 5 29), (0, u "([CIILjava/lang/Void;)V"), (8, .fieldref 10 39), (0, .nameAndType 40 26), (0, u "COMPACT_STRINGS"), (1, .class_ 44), (1, u "java/lang/StringUTF16"), (0, u "compress"), (1, .methodref 42 48), (0, .nameAndType 49 50), (0, u "coderFromArrayLen"), (0, u "([BI)B"), (126, .methodref 42 178), (0, .nameAndType 45 179), (0, u "([CII)[B"), (395, .class_ 576), (0, u "java/lang/CharSequence"), (22, u "CASE_INSENSITIVE_ORDER"), (0, u "Ljava/util/Comparator;"), (409, u "([C)V"), (90, u "serialPersistentFields"), (0, u "[Ljava/io/ObjectStreamField;"), (0, .class_ 1104), (0, u "java/lang/String$CaseInsensitiveComparator"), (1, .class_ 1107), (0, u "java/io/Serializable"), (0, .class_ 1109), (0, u "java/lang/Comparable"), (0, .class_ 1111), (0, u "java/lang/constant/Constable"), (0, .class_ 1113), (0, u "java/lang/constant/ConstantDesc"), (2, u "serialVersionUID"), (0, u "J"), (3, u "REPL"), (0, u "C"), (2, u "LATIN1"), (1, u "UTF16")] 323

def k7m0 : Method := { name := "<init>", desc := "()V", sig := { parameters := [], returnType := none }, accessFlags := 1, code := none }
def k7c1 : Code := { maxStack := 5, maxLocals := 2, code := jdk_42_method_3_code, exceptionTable := #[], attributes := #[] }
def k7m1 : Method := { name := "<init>", desc := "([C)V", sig := { parameters := [(.array .char)], returnType := none }, accessFlags := 1, code := some k7c1 }
def k7c2 : Code := { maxStack := 4, maxLocals := 6, code := jdk_42_method_149_code, exceptionTable := #[], attributes := #[] }
def k7m2 : Method := { name := "<init>", desc := "([CIILjava/lang/Void;)V", sig := { parameters := [(.array .char), .int, .int, (.object "java/lang/Void")], returnType := none }, accessFlags := 2, code := some k7c2 }
/-- java/lang/String -/
def k7 : Class := { plain "java/lang/String" (some 0) with
  accessFlags := 49
  interfaces := #[2, 3, 4, 5, 6]
  cf := some (fileOf pool7 10 #[.nestMembers #[1103]] #[{ accessFlags := 1, nameIndex := 5, descriptorIndex := 6, attributes := #[] }, { accessFlags := 1, nameIndex := 5, descriptorIndex := 1010, attributes := #[] }, { accessFlags := 2, nameIndex := 5, descriptorIndex := 29, attributes := #[] }] 49 2 #[1106, 1108, 575, 1110, 1112] #[{ accessFlags := 18, nameIndex := 13, descriptorIndex := 14, attributes := #[] }, { accessFlags := 18, nameIndex := 17, descriptorIndex := 18, attributes := #[] }, { accessFlags := 2, nameIndex := 21, descriptorIndex := 22, attributes := #[] }, { accessFlags := 2, nameIndex := 25, descriptorIndex := 26, attributes := #[] }, { accessFlags := 26, nameIndex := 1116, descriptorIndex := 1117, attributes := #[] }, { accessFlags := 24, nameIndex := 40, descriptorIndex := 26, attributes := #[] }, { accessFlags := 26, nameIndex := 1101, descriptorIndex := 1102, attributes := #[] }, { accessFlags := 26, nameIndex := 1121, descriptorIndex := 1122, attributes := #[] }, { accessFlags := 25, nameIndex := 599, descriptorIndex := 600, attributes := #[] }, { accessFlags := 24, nameIndex := 1125, descriptorIndex := 18, attributes := #[] }, { accessFlags := 24, nameIndex := 1127, descriptorIndex := 18, attributes := #[] }])
  fields := #[{ name := "value", type := (.array .byte), accessFlags := 18, slot := 0, constantValue := 0 }, { name := "coder", type := .byte, accessFlags := 18, slot := 1, constantValue := 0 }, { name := "hash", type := .int, accessFlags := 2, slot := 2, constantValue := 0 }, { name := "hashIsZero", type := .boolean, accessFlags := 2, slot := 3, constantValue := 0 }, { name := "serialVersionUID", type := .long, accessFlags := 26, slot := 0, constantValue := 0 }, { name := "COMPACT_STRINGS", type := .boolean, accessFlags := 24, slot := 1, constantValue := 0 }, { name := "serialPersistentFields", type := (.array (.object "java/io/ObjectStreamField")), accessFlags := 26, slot := 2, constantValue := 0 }, { name := "REPL", type := .char, accessFlags := 26, slot := 3, constantValue := 0 }, { name := "CASE_INSENSITIVE_ORDER", type := (.object "java/util/Comparator"), accessFlags := 25, slot := 4, constantValue := 0 }, { name := "LATIN1", type := .byte, accessFlags := 24, slot := 5, constantValue := 0 }, { name := "UTF16", type := .byte, accessFlags := 24, slot := 6, constantValue := 0 }]
  methods := #[k7m0, k7m1, k7m2]
  instanceTypes := #[(.array .byte), .byte, .int, .boolean]
  staticTypes := #[.long, .boolean, (.array (.object "java/io/ObjectStreamField")), .char, (.object "java/util/Comparator"), .byte, .byte]
  resolved := Array.replicate 1451 none
  statics := some 0 }

def pool8 : Array CpInfo := pool [(1, .methodref 2 3), (0, .class_ 4), (0, .nameAndType 5 6), (0, u "java/lang/Object"), (0, u "<init>"), (0, u "()V"), (0, .class_ 8), (0, u "java/lang/Record")] 13

def k8c0 : Code := { maxStack := 1, maxLocals := 1, code := jdk_30_method_1_code, exceptionTable := #[], attributes := #[] }
def k8m0 : Method := { name := "<init>", desc := "()V", sig := { parameters := [], returnType := none }, accessFlags := 4, code := some k8c0 }
/-- java/lang/Record -/
def k8 : Class := { plain "java/lang/Record" (some 0) with
  accessFlags := 1057
  interfaces := #[]
  cf := some (fileOf pool8 7 #[] #[{ accessFlags := 4, nameIndex := 5, descriptorIndex := 6, attributes := #[] }] 1057 2 #[] #[])
  fields := #[]
  methods := #[k8m0]
  instanceTypes := #[]
  staticTypes := #[]
  resolved := Array.replicate 22 none
  statics := none }

def pool9 : Array CpInfo := pool [(1, .methodref 2 3), (0, .class_ 4), (0, .nameAndType 5 6), (0, u "java/lang/Record"), (0, u "<init>"), (0, u "()V"), (15, .fieldref 23 24), (0, .class_ 25), (0, .nameAndType 26 27), (0, u "com/example/underwright/underwright/eligibility/Fact"), (0, u "value"), (0, u "Ljava/lang/Object;"), (0, .fieldref 23 29), (0, .nameAndType 30 31), (0, u "unknown"), (0, u "Lcom/example/underwright/underwright/eligibility/Unknown;"), (0, .methodref 23 33), (0, .nameAndType 5 34), (0, u "(Ljava/lang/Object;Lcom/example/underwright/underwright/eligibility/Unknown;)V"), (2, u "TRUE"), (0, u "Lcom/example/underwright/underwright/eligibility/Fact;"), (2, u "FALSE"), (6, u "of"), (0, u "(Ljava/lang/Object;)Lcom/example/underwright/underwright/eligibility/Fact;"), (52, u "isKnown"), (0, u "()Z"), (3, u "()Ljava/lang/Object;"), (1, u "()Lcom/example/underwright/underwright/eligibility/Unknown;")] 36

def k9c0 : Code := { maxStack := 4, maxLocals := 3, code := prog_14_method_1_code, exceptionTable := #[], attributes := #[] }
def k9m0 : Method := { name := "<init>", desc := "(Ljava/lang/Object;Lcom/example/underwright/underwright/eligibility/Unknown;)V", sig := { parameters := [(.object "java/lang/Object"), (.object "com/example/underwright/underwright/eligibility/Unknown")], returnType := none }, accessFlags := 1, code := some k9c0 }
def k9c1 : Code := { maxStack := 4, maxLocals := 1, code := prog_14_method_2_code, exceptionTable := #[], attributes := #[] }
def k9m1 : Method := { name := "of", desc := "(Ljava/lang/Object;)Lcom/example/underwright/underwright/eligibility/Fact;", sig := { parameters := [(.object "java/lang/Object")], returnType := some (.object "com/example/underwright/underwright/eligibility/Fact") }, accessFlags := 9, code := some k9c1 }
def k9c2 : Code := { maxStack := 1, maxLocals := 1, code := prog_14_method_7_code, exceptionTable := #[], attributes := #[] }
def k9m2 : Method := { name := "isKnown", desc := "()Z", sig := { parameters := [], returnType := some .boolean }, accessFlags := 1, code := some k9c2 }
def k9c3 : Code := { maxStack := 1, maxLocals := 1, code := prog_14_method_11_code, exceptionTable := #[], attributes := #[] }
def k9m3 : Method := { name := "value", desc := "()Ljava/lang/Object;", sig := { parameters := [], returnType := some (.object "java/lang/Object") }, accessFlags := 1, code := some k9c3 }
def k9c4 : Code := { maxStack := 1, maxLocals := 1, code := prog_14_method_12_code, exceptionTable := #[], attributes := #[] }
def k9m4 : Method := { name := "unknown", desc := "()Lcom/example/underwright/underwright/eligibility/Unknown;", sig := { parameters := [], returnType := some (.object "com/example/underwright/underwright/eligibility/Unknown") }, accessFlags := 1, code := some k9c4 }
/-- com/example/underwright/underwright/eligibility/Fact -/
def k9 : Class := { plain "com/example/underwright/underwright/eligibility/Fact" (some 8) with
  accessFlags := 49
  interfaces := #[]
  cf := some (fileOf pool9 23 #[] #[{ accessFlags := 1, nameIndex := 5, descriptorIndex := 34, attributes := #[] }, { accessFlags := 9, nameIndex := 48, descriptorIndex := 49, attributes := #[] }, { accessFlags := 1, nameIndex := 102, descriptorIndex := 103, attributes := #[] }, { accessFlags := 1, nameIndex := 26, descriptorIndex := 107, attributes := #[] }, { accessFlags := 1, nameIndex := 30, descriptorIndex := 109, attributes := #[] }] 49 2 #[] #[{ accessFlags := 18, nameIndex := 26, descriptorIndex := 27, attributes := #[] }, { accessFlags := 18, nameIndex := 30, descriptorIndex := 31, attributes := #[] }, { accessFlags := 26, nameIndex := 37, descriptorIndex := 38, attributes := #[] }, { accessFlags := 26, nameIndex := 41, descriptorIndex := 38, attributes := #[] }])
  fields := #[{ name := "value", type := (.object "java/lang/Object"), accessFlags := 18, slot := 0, constantValue := 0 }, { name := "unknown", type := (.object "com/example/underwright/underwright/eligibility/Unknown"), accessFlags := 18, slot := 1, constantValue := 0 }, { name := "TRUE", type := (.object "com/example/underwright/underwright/eligibility/Fact"), accessFlags := 26, slot := 0, constantValue := 0 }, { name := "FALSE", type := (.object "com/example/underwright/underwright/eligibility/Fact"), accessFlags := 26, slot := 1, constantValue := 0 }]
  methods := #[k9m0, k9m1, k9m2, k9m3, k9m4]
  instanceTypes := #[(.object "java/lang/Object"), (.object "com/example/underwright/underwright/eligibility/Unknown")]
  staticTypes := #[(.object "com/example/underwright/underwright/eligibility/Fact"), (.object "com/example/underwright/underwright/eligibility/Fact")]
  resolved := Array.replicate 146 none
  statics := none }

def pool10 : Array CpInfo := pool [(6, .class_ 8), (1, u "java/lang/Object"), (0, u "<init>"), (0, u "()V"), (1, .class_ 14), (1, u "java/lang/StringUTF16"), (31, u "$assertionsDisabled"), (0, u "Z"), (13, u "HI_BYTE_SHIFT"), (0, u "I"), (2, u "LO_BYTE_SHIFT"), (49, .methodref 12 116), (0, .nameAndType 117 118), (0, u "compress"), (0, u "([CI[BII)I"), (3, u "([CII)[B"), (138, u "coderFromArrayLen"), (0, u "([BI)B"), (106, .class_ 371), (1, u "java/lang/StringUTF16$LinesSpliterator"), (58, u "MAX_LENGTH"), (196, .class_ 628), (0, u "java/lang/StringUTF16$CodePointsSpliterator"), (0, .class_ 630), (0, u "java/lang/StringUTF16$CharsSpliterator")] 4

def k10m0 : Method := { name := "<init>", desc := "()V", sig := { parameters := [], returnType := none }, accessFlags := 0, code := none }
def k10c1 : Code := { maxStack := 2, maxLocals := 2, code := jdk_52_method_15_code, exceptionTable := #[], attributes := #[] }
def k10m1 : Method := { name := "coderFromArrayLen", desc := "([BI)B", sig := { parameters := [(.array .byte), .int], returnType := some .byte }, accessFlags := 8, code := some k10c1 }
def k10c2 : Code := { maxStack := 5, maxLocals := 6, code := jdk_52_method_16_code, exceptionTable := #[], attributes := #[] }
def k10m2 : Method := { name := "compress", desc := "([CII)[B", sig := { parameters := [(.array .char), .int, .int], returnType := some (.array .byte) }, accessFlags := 9, code := some k10c2 }
def k10c3 : Code := { maxStack := 3, maxLocals := 7, code := jdk_52_method_21_code, exceptionTable := #[], attributes := #[] }
def k10m3 : Method := { name := "compress", desc := "([CI[BII)I", sig := { parameters := [(.array .char), .int, (.array .byte), .int, .int], returnType := some .int }, accessFlags := 9, code := some k10c3 }
/-- java/lang/StringUTF16 -/
def k10 : Class := { plain "java/lang/StringUTF16" (some 0) with
  accessFlags := 48
  interfaces := #[]
  cf := some (fileOf pool10 12 #[.nestMembers #[627, 629, 369]] #[{ accessFlags := 0, nameIndex := 9, descriptorIndex := 10, attributes := #[] }, { accessFlags := 8, nameIndex := 261, descriptorIndex := 262, attributes := #[] }, { accessFlags := 9, nameIndex := 117, descriptorIndex := 122, attributes := #[] }, { accessFlags := 9, nameIndex := 117, descriptorIndex := 118, attributes := #[] }] 48 6 #[] #[{ accessFlags := 26, nameIndex := 61, descriptorIndex := 62, attributes := #[] }, { accessFlags := 26, nameIndex := 65, descriptorIndex := 62, attributes := #[] }, { accessFlags := 24, nameIndex := 430, descriptorIndex := 62, attributes := #[] }, { accessFlags := 4120, nameIndex := 46, descriptorIndex := 47, attributes := #[] }])
  fields := #[{ name := "HI_BYTE_SHIFT", type := .int, accessFlags := 26, slot := 0, constantValue := 0 }, { name := "LO_BYTE_SHIFT", type := .int, accessFlags := 26, slot := 1, constantValue := 0 }, { name := "MAX_LENGTH", type := .int, accessFlags := 24, slot := 2, constantValue := 0 }, { name := "$assertionsDisabled", type := .boolean, accessFlags := 4120, slot := 3, constantValue := 0 }]
  methods := #[k10m0, k10m1, k10m2, k10m3]
  instanceTypes := #[]
  staticTypes := #[.int, .int, .int, .boolean]
  resolved := Array.replicate 635 none
  statics := none }

def pool11 : Array CpInfo := pool [(1, .methodref 2 3), (0, .class_ 4), (0, .nameAndType 5 6), (0, u "java/lang/Object"), (0, u "<init>"), (0, u "()V"), (1, .class_ 10), (1, u "java/lang/Number"), (2, .class_ 14), (0, u "java/io/Serializable"), (0, u "serialVersionUID"), (0, u "J")] 20

def k11c0 : Code := { maxStack := 1, maxLocals := 1, code := jdk_18_method_1_code, exceptionTable := #[], attributes := #[] }
def k11m0 : Method := { name := "<init>", desc := "()V", sig := { parameters := [], returnType := none }, accessFlags := 1, code := some k11c0 }
/-- java/lang/Number -/
def k11 : Class := { plain "java/lang/Number" (some 0) with
  accessFlags := 1057
  interfaces := #[2]
  cf := some (fileOf pool11 8 #[] #[{ accessFlags := 1, nameIndex := 5, descriptorIndex := 6, attributes := #[] }] 1057 2 #[13] #[{ accessFlags := 26, nameIndex := 15, descriptorIndex := 16, attributes := #[] }])
  fields := #[{ name := "serialVersionUID", type := .long, accessFlags := 26, slot := 0, constantValue := 0 }]
  methods := #[k11m0]
  instanceTypes := #[]
  staticTypes := #[.long]
  resolved := Array.replicate 37 none
  statics := none }

def pool12 : Array CpInfo := pool [(1, .class_ 2), (0, u "java/lang/Long"), (55, .nameAndType 59 60), (0, u "<init>"), (0, u "()V"), (24, u "valueOf"), (143, u "(J)Ljava/lang/Long;"), (0, .long 18446744073709551488), (1, .long 127), (1, .fieldref 235 236), (0, .class_ 237), (0, .nameAndType 238 239), (0, u "java/lang/Long$LongCache"), (0, u "cache"), (0, u "[Ljava/lang/Long;"), (0, .methodref 1 241), (0, .nameAndType 59 242), (0, u "(J)V"), (27, .methodref 271 58), (0, .class_ 272), (0, u "java/lang/Number"), (0, .fieldref 1 274), (0, .nameAndType 275 276), (0, u "value"), (0, u "J"), (84, u "TYPE"), (0, u "Ljava/lang/Class;"), (0, .class_ 364), (0, u "java/lang/Comparable"), (0, .class_ 366), (0, u "java/lang/constant/Constable"), (0, .class_ 368), (0, u "java/lang/constant/ConstantDesc"), (0, u "MIN_VALUE"), (1, u "MAX_VALUE"), (4, u "SIZE"), (0, u "I"), (1, u "BYTES"), (1, u "serialVersionUID")] 142

def k12c0 : Code := { maxStack := 4, maxLocals := 3, code := jdk_35_method_24_code, exceptionTable := #[], attributes := #[] }
def k12m0 : Method := { name := "valueOf", desc := "(J)Ljava/lang/Long;", sig := { parameters := [.long], returnType := some (.object "java/lang/Long") }, accessFlags := 9, code := some k12c0 }
def k12c1 : Code := { maxStack := 3, maxLocals := 3, code := jdk_35_method_26_code, exceptionTable := #[], attributes := #[] }
def k12m1 : Method := { name := "<init>", desc := "(J)V", sig := { parameters := [.long], returnType := none }, accessFlags := 1, code := some k12c1 }
/-- java/lang/Long -/
def k12 : Class := { plain "java/lang/Long" (some 11) with
  accessFlags := 49
  interfaces := #[3, 5, 6]
  cf := some (fileOf pool12 1 #[.nestMembers #[235]] #[{ accessFlags := 9, nameIndex := 85, descriptorIndex := 229, attributes := #[] }, { accessFlags := 1, nameIndex := 59, descriptorIndex := 242, attributes := #[] }] 49 271 #[363, 365, 367] #[{ accessFlags := 25, nameIndex := 369, descriptorIndex := 276, attributes := #[] }, { accessFlags := 25, nameIndex := 371, descriptorIndex := 276, attributes := #[] }, { accessFlags := 25, nameIndex := 361, descriptorIndex := 362, attributes := #[] }, { accessFlags := 18, nameIndex := 275, descriptorIndex := 276, attributes := #[] }, { accessFlags := 25, nameIndex := 376, descriptorIndex := 377, attributes := #[] }, { accessFlags := 25, nameIndex := 379, descriptorIndex := 377, attributes := #[] }, { accessFlags := 26, nameIndex := 381, descriptorIndex := 276, attributes := #[] }])
  fields := #[{ name := "MIN_VALUE", type := .long, accessFlags := 25, slot := 0, constantValue := 0 }, { name := "MAX_VALUE", type := .long, accessFlags := 25, slot := 1, constantValue := 0 }, { name := "TYPE", type := (.object "java/lang/Class"), accessFlags := 25, slot := 2, constantValue := 0 }, { name := "value", type := .long, accessFlags := 18, slot := 0, constantValue := 0 }, { name := "SIZE", type := .int, accessFlags := 25, slot := 3, constantValue := 0 }, { name := "BYTES", type := .int, accessFlags := 25, slot := 4, constantValue := 0 }, { name := "serialVersionUID", type := .long, accessFlags := 26, slot := 5, constantValue := 0 }]
  methods := #[k12m0, k12m1]
  instanceTypes := #[.long]
  staticTypes := #[.long, .long, (.object "java/lang/Class"), .int, .int, .long]
  resolved := Array.replicate 524 none
  statics := none }

def pool13 : Array CpInfo := pool [(2, .class_ 4), (1, u "java/lang/Object"), (0, u "<init>"), (0, u "()V"), (0, .class_ 8), (0, u "java/lang/Long"), (7, .class_ 18), (1, u "java/lang/Long$LongCache"), (0, u "$assertionsDisabled"), (0, u "Z"), (8, u "archivedCache"), (0, u "[Ljava/lang/Long;"), (7, u "cache")] 24

def k13m0 : Method := { name := "<init>", desc := "()V", sig := { parameters := [], returnType := none }, accessFlags := 2, code := none }
/-- java/lang/Long$LongCache -/
def k13 : Class := { plain "java/lang/Long$LongCache" (some 0) with
  accessFlags := 48
  interfaces := #[]
  cf := some (fileOf pool13 16 #[.nestHost 7] #[{ accessFlags := 2, nameIndex := 5, descriptorIndex := 6, attributes := #[] }] 48 2 #[] #[{ accessFlags := 24, nameIndex := 38, descriptorIndex := 30, attributes := #[] }, { accessFlags := 8, nameIndex := 29, descriptorIndex := 30, attributes := #[] }, { accessFlags := 4120, nameIndex := 19, descriptorIndex := 20, attributes := #[] }])
  fields := #[{ name := "cache", type := (.array (.object "java/lang/Long")), accessFlags := 24, slot := 0, constantValue := 0 }, { name := "archivedCache", type := (.array (.object "java/lang/Long")), accessFlags := 8, slot := 1, constantValue := 0 }, { name := "$assertionsDisabled", type := .boolean, accessFlags := 4120, slot := 2, constantValue := 0 }]
  methods := #[k13m0]
  instanceTypes := #[]
  staticTypes := #[(.array (.object "java/lang/Long")), (.array (.object "java/lang/Long")), .boolean]
  resolved := Array.replicate 63 none
  statics := some 1 }

def pool14 : Array CpInfo := pool [(1, .class_ 2), (0, u "java/lang/Integer"), (16, u "digits"), (0, u "[C"), (46, u "<init>"), (17, u "DigitOnes"), (0, u "[B"), (2, u "DigitTens"), (10, .nameAndType 67 101), (0, u "()V"), (85, u "valueOf"), (0, u "(I)Ljava/lang/Integer;"), (0, .class_ 190), (0, u "java/lang/Integer$IntegerCache"), (0, .fieldref 189 192), (0, .nameAndType 193 194), (0, u "high"), (0, u "I"), (0, .fieldref 189 196), (0, .nameAndType 197 198), (0, u "cache"), (0, u "[Ljava/lang/Integer;"), (0, .methodref 1 200), (0, .nameAndType 67 201), (0, u "(I)V"), (0, .methodref 203 100), (0, .class_ 204), (0, u "java/lang/Number"), (0, .fieldref 1 206), (0, .nameAndType 207 194), (0, u "value"), (94, u "TYPE"), (0, u "Ljava/lang/Class;"), (0, .class_ 305), (0, u "java/lang/Comparable"), (0, .class_ 307), (0, u "java/lang/constant/Constable"), (0, .class_ 309), (0, u "java/lang/constant/ConstantDesc"), (0, u "MIN_VALUE"), (1, u "MAX_VALUE"), (3, u "SIZE"), (1, u "BYTES"), (1, u "serialVersionUID"), (0, u "J")] 131

def k14c0 : Code := { maxStack := 3, maxLocals := 1, code := jdk_33_method_22_code, exceptionTable := #[], attributes := #[] }
def k14m0 : Method := { name := "valueOf", desc := "(I)Ljava/lang/Integer;", sig := { parameters := [.int], returnType := some (.object "java/lang/Integer") }, accessFlags := 9, code := some k14c0 }
def k14c1 : Code := { maxStack := 2, maxLocals := 2, code := jdk_33_method_23_code, exceptionTable := #[], attributes := #[] }
def k14m1 : Method := { name := "<init>", desc := "(I)V", sig := { parameters := [.int], returnType := none }, accessFlags := 1, code := some k14c1 }
/-- java/lang/Integer -/
def k14 : Class := { plain "java/lang/Integer" (some 11) with
  accessFlags := 49
  interfaces := #[3, 5, 6]
  cf := some (fileOf pool14 1 #[.nestMembers #[189]] #[{ accessFlags := 9, nameIndex := 187, descriptorIndex := 188, attributes := #[] }, { accessFlags := 1, nameIndex := 67, descriptorIndex := 201, attributes := #[] }] 49 203 #[304, 306, 308] #[{ accessFlags := 25, nameIndex := 310, descriptorIndex := 194, attributes := #[] }, { accessFlags := 25, nameIndex := 312, descriptorIndex := 194, attributes := #[] }, { accessFlags := 25, nameIndex := 302, descriptorIndex := 303, attributes := #[] }, { accessFlags := 24, nameIndex := 19, descriptorIndex := 20, attributes := #[] }, { accessFlags := 24, nameIndex := 89, descriptorIndex := 86, attributes := #[] }, { accessFlags := 24, nameIndex := 85, descriptorIndex := 86, attributes := #[] }, { accessFlags := 18, nameIndex := 207, descriptorIndex := 194, attributes := #[] }, { accessFlags := 25, nameIndex := 316, descriptorIndex := 194, attributes := #[] }, { accessFlags := 25, nameIndex := 318, descriptorIndex := 194, attributes := #[] }, { accessFlags := 26, nameIndex := 320, descriptorIndex := 321, attributes := #[] }])
  fields := #[{ name := "MIN_VALUE", type := .int, accessFlags := 25, slot := 0, constantValue := 0 }, { name := "MAX_VALUE", type := .int, accessFlags := 25, slot := 1, constantValue := 0 }, { name := "TYPE", type := (.object "java/lang/Class"), accessFlags := 25, slot := 2, constantValue := 0 }, { name := "digits", type := (.array .char), accessFlags := 24, slot := 3, constantValue := 0 }, { name := "DigitTens", type := (.array .byte), accessFlags := 24, slot := 4, constantValue := 0 }, { name := "DigitOnes", type := (.array .byte), accessFlags := 24, slot := 5, constantValue := 0 }, { name := "value", type := .int, accessFlags := 18, slot := 0, constantValue := 0 }, { name := "SIZE", type := .int, accessFlags := 25, slot := 6, constantValue := 0 }, { name := "BYTES", type := .int, accessFlags := 25, slot := 7, constantValue := 0 }, { name := "serialVersionUID", type := .long, accessFlags := 26, slot := 8, constantValue := 0 }]
  methods := #[k14m0, k14m1]
  instanceTypes := #[.int]
  staticTypes := #[.int, .int, (.object "java/lang/Class"), (.array .char), (.array .byte), (.array .byte), .int, .int, .long]
  resolved := Array.replicate 453 none
  statics := none }

def pool15 : Array CpInfo := pool [(2, .class_ 4), (1, u "java/lang/Object"), (0, u "<init>"), (0, u "()V"), (0, .class_ 8), (0, u "java/lang/Integer"), (7, .class_ 18), (1, u "java/lang/Integer$IntegerCache"), (0, u "$assertionsDisabled"), (0, u "Z"), (26, u "high"), (0, u "I"), (8, u "archivedCache"), (0, u "[Ljava/lang/Integer;"), (12, u "cache"), (0, u "low")] 27

def k15m0 : Method := { name := "<init>", desc := "()V", sig := { parameters := [], returnType := none }, accessFlags := 2, code := none }
/-- java/lang/Integer$IntegerCache -/
def k15 : Class := { plain "java/lang/Integer$IntegerCache" (some 0) with
  accessFlags := 48
  interfaces := #[]
  cf := some (fileOf pool15 16 #[.nestHost 7] #[{ accessFlags := 2, nameIndex := 5, descriptorIndex := 6, attributes := #[] }] 48 2 #[] #[{ accessFlags := 24, nameIndex := 72, descriptorIndex := 48, attributes := #[] }, { accessFlags := 24, nameIndex := 47, descriptorIndex := 48, attributes := #[] }, { accessFlags := 24, nameIndex := 71, descriptorIndex := 58, attributes := #[] }, { accessFlags := 8, nameIndex := 57, descriptorIndex := 58, attributes := #[] }, { accessFlags := 4120, nameIndex := 19, descriptorIndex := 20, attributes := #[] }])
  fields := #[{ name := "low", type := .int, accessFlags := 24, slot := 0, constantValue := 0 }, { name := "high", type := .int, accessFlags := 24, slot := 1, constantValue := 0 }, { name := "cache", type := (.array (.object "java/lang/Integer")), accessFlags := 24, slot := 2, constantValue := 0 }, { name := "archivedCache", type := (.array (.object "java/lang/Integer")), accessFlags := 8, slot := 3, constantValue := 0 }, { name := "$assertionsDisabled", type := .boolean, accessFlags := 4120, slot := 4, constantValue := 0 }]
  methods := #[k15m0]
  instanceTypes := #[]
  staticTypes := #[.int, .int, (.array (.object "java/lang/Integer")), (.array (.object "java/lang/Integer")), .boolean]
  resolved := Array.replicate 100 none
  statics := some 2 }

def pool16 : Array CpInfo := pool [(4, .class_ 6), (1, u "java/lang/Object"), (0, u "<init>"), (0, u "()V"), (5, .class_ 16), (1, u "java/lang/StringLatin1"), (104, u "$assertionsDisabled"), (0, u "Z"), (98, .class_ 223), (1, u "java/lang/StringLatin1$LinesSpliterator"), (166, .class_ 391), (0, u "java/lang/StringLatin1$CharsSpliterator")] 3

def k16m0 : Method := { name := "<init>", desc := "()V", sig := { parameters := [], returnType := none }, accessFlags := 0, code := none }
/-- java/lang/StringLatin1 -/
def k16 : Class := { plain "java/lang/StringLatin1" (some 0) with
  accessFlags := 48
  interfaces := #[]
  cf := some (fileOf pool16 14 #[.nestMembers #[390, 221]] #[{ accessFlags := 0, nameIndex := 7, descriptorIndex := 8, attributes := #[] }] 48 4 #[] #[{ accessFlags := 4120, nameIndex := 121, descriptorIndex := 122, attributes := #[] }])
  fields := #[{ name := "$assertionsDisabled", type := .boolean, accessFlags := 4120, slot := 0, constantValue := 0 }]
  methods := #[k16m0]
  instanceTypes := #[]
  staticTypes := #[.boolean]
  resolved := Array.replicate 395 none
  statics := none }

def pool17 : Array CpInfo := pool [(2, .class_ 4), (1, u "java/lang/Object"), (0, u "<init>"), (0, u "()V"), (17, .class_ 26), (1, u "jdk/internal/util/Preconditions"), (28, .class_ 56), (0, u "jdk/internal/util/Preconditions$4"), (57, .class_ 115), (0, u "jdk/internal/util/Preconditions$1"), (7, u "SIOOBE_FORMATTER"), (0, u "Ljava/util/function/BiFunction;"), (0, .class_ 126), (0, u "jdk/internal/util/Preconditions$2"), (3, u "AIOOBE_FORMATTER"), (0, .class_ 132), (0, u "jdk/internal/util/Preconditions$3"), (3, u "IOOBE_FORMATTER")] 57

def k17m0 : Method := { name := "<init>", desc := "()V", sig := { parameters := [], returnType := none }, accessFlags := 1, code := none }
/-- jdk/internal/util/Preconditions -/
def k17 : Class := { plain "jdk/internal/util/Preconditions" (some 0) with
  accessFlags := 33
  interfaces := #[]
  cf := some (fileOf pool17 24 #[.nestMembers #[55, 131, 125, 114]] #[{ accessFlags := 1, nameIndex := 5, descriptorIndex := 6, attributes := #[] }] 33 2 #[] #[{ accessFlags := 25, nameIndex := 123, descriptorIndex := 124, attributes := #[] }, { accessFlags := 25, nameIndex := 130, descriptorIndex := 124, attributes := #[] }, { accessFlags := 25, nameIndex := 136, descriptorIndex := 124, attributes := #[] }])
  fields := #[{ name := "SIOOBE_FORMATTER", type := (.object "java/util/function/BiFunction"), accessFlags := 25, slot := 0, constantValue := 0 }, { name := "AIOOBE_FORMATTER", type := (.object "java/util/function/BiFunction"), accessFlags := 25, slot := 1, constantValue := 0 }, { name := "IOOBE_FORMATTER", type := (.object "java/util/function/BiFunction"), accessFlags := 25, slot := 2, constantValue := 0 }]
  methods := #[k17m0]
  instanceTypes := #[]
  staticTypes := #[(.object "java/util/function/BiFunction"), (.object "java/util/function/BiFunction"), (.object "java/util/function/BiFunction")]
  resolved := Array.replicate 194 none
  statics := some 3 }

def pool18 : Array CpInfo := pool [(9, u "<init>"), (6, .class_ 18), (1, u "java/lang/Object"), (0, u "()V"), (1, .class_ 23), (1, u "jdk/internal/util/ArraysSupport"), (0, u "LOG2_ARRAY_LONG_INDEX_SCALE"), (0, u "I"), (2, u "U"), (0, u "Ljdk/internal/misc/Unsafe;"), (8, u "BIG_ENDIAN"), (0, u "Z"), (8, u "LOG2_BYTE_BIT_SIZE"), (4, u "LOG2_ARRAY_INT_INDEX_SCALE"), (54, u "JLA"), (0, u "Ljdk/internal/access/JavaLangAccess;"), (11, u "LOG2_ARRAY_BOOLEAN_INDEX_SCALE"), (9, u "LOG2_ARRAY_BYTE_INDEX_SCALE"), (5, u "LOG2_ARRAY_CHAR_INDEX_SCALE"), (5, u "LOG2_ARRAY_SHORT_INDEX_SCALE"), (18, u "LOG2_ARRAY_FLOAT_INDEX_SCALE"), (24, u "LOG2_ARRAY_DOUBLE_INDEX_SCALE"), (89, u "T_BOOLEAN"), (2, u "T_CHAR"), (1, u "T_FLOAT"), (1, u "T_DOUBLE"), (1, u "T_BYTE"), (1, u "T_SHORT"), (1, u "T_INT"), (1, u "T_LONG"), (1, u "SOFT_MAX_ARRAY_LENGTH")] 83

def k18m0 : Method := { name := "<init>", desc := "()V", sig := { parameters := [], returnType := none }, accessFlags := 2, code := none }
/-- jdk/internal/util/ArraysSupport -/
def k18 : Class := { plain "jdk/internal/util/ArraysSupport" (some 0) with
  accessFlags := 33
  interfaces := #[]
  cf := some (fileOf pool18 21 #[] #[{ accessFlags := 2, nameIndex := 9, descriptorIndex := 19, attributes := #[] }] 33 16 #[] #[{ accessFlags := 24, nameIndex := 28, descriptorIndex := 29, attributes := #[] }, { accessFlags := 26, nameIndex := 38, descriptorIndex := 39, attributes := #[] }, { accessFlags := 25, nameIndex := 121, descriptorIndex := 25, attributes := #[] }, { accessFlags := 25, nameIndex := 131, descriptorIndex := 25, attributes := #[] }, { accessFlags := 25, nameIndex := 137, descriptorIndex := 25, attributes := #[] }, { accessFlags := 25, nameIndex := 143, descriptorIndex := 25, attributes := #[] }, { accessFlags := 25, nameIndex := 53, descriptorIndex := 25, attributes := #[] }, { accessFlags := 25, nameIndex := 24, descriptorIndex := 25, attributes := #[] }, { accessFlags := 25, nameIndex := 162, descriptorIndex := 25, attributes := #[] }, { accessFlags := 25, nameIndex := 187, descriptorIndex := 25, attributes := #[] }, { accessFlags := 26, nameIndex := 48, descriptorIndex := 25, attributes := #[] }, { accessFlags := 25, nameIndex := 277, descriptorIndex := 25, attributes := #[] }, { accessFlags := 25, nameIndex := 280, descriptorIndex := 25, attributes := #[] }, { accessFlags := 25, nameIndex := 282, descriptorIndex := 25, attributes := #[] }, { accessFlags := 25, nameIndex := 284, descriptorIndex := 25, attributes := #[] }, { accessFlags := 25, nameIndex := 286, descriptorIndex := 25, attributes := #[] }, { accessFlags := 25, nameIndex := 288, descriptorIndex := 25, attributes := #[] }, { accessFlags := 25, nameIndex := 290, descriptorIndex := 25, attributes := #[] }, { accessFlags := 25, nameIndex := 292, descriptorIndex := 25, attributes := #[] }, { accessFlags := 26, nameIndex := 108, descriptorIndex := 109, attributes := #[] }, { accessFlags := 25, nameIndex := 294, descriptorIndex := 25, attributes := #[] }])
  fields := #[{ name := "U", type := (.object "jdk/internal/misc/Unsafe"), accessFlags := 24, slot := 0, constantValue := 0 }, { name := "BIG_ENDIAN", type := .boolean, accessFlags := 26, slot := 1, constantValue := 0 }, { name := "LOG2_ARRAY_BOOLEAN_INDEX_SCALE", type := .int, accessFlags := 25, slot := 2, constantValue := 0 }, { name := "LOG2_ARRAY_BYTE_INDEX_SCALE", type := .int, accessFlags := 25, slot := 3, constantValue := 0 }, { name := "LOG2_ARRAY_CHAR_INDEX_SCALE", type := .int, accessFlags := 25, slot := 4, constantValue := 0 }, { name := "LOG2_ARRAY_SHORT_INDEX_SCALE", type := .int, accessFlags := 25, slot := 5, constantValue := 0 }, { name := "LOG2_ARRAY_INT_INDEX_SCALE", type := .int, accessFlags := 25, slot := 6, constantValue := 0 }, { name := "LOG2_ARRAY_LONG_INDEX_SCALE", type := .int, accessFlags := 25, slot := 7, constantValue := 0 }, { name := "LOG2_ARRAY_FLOAT_INDEX_SCALE", type := .int, accessFlags := 25, slot := 8, constantValue := 0 }, { name := "LOG2_ARRAY_DOUBLE_INDEX_SCALE", type := .int, accessFlags := 25, slot := 9, constantValue := 0 }, { name := "LOG2_BYTE_BIT_SIZE", type := .int, accessFlags := 26, slot := 10, constantValue := 0 }, { name := "T_BOOLEAN", type := .int, accessFlags := 25, slot := 11, constantValue := 0 }, { name := "T_CHAR", type := .int, accessFlags := 25, slot := 12, constantValue := 0 }, { name := "T_FLOAT", type := .int, accessFlags := 25, slot := 13, constantValue := 0 }, { name := "T_DOUBLE", type := .int, accessFlags := 25, slot := 14, constantValue := 0 }, { name := "T_BYTE", type := .int, accessFlags := 25, slot := 15, constantValue := 0 }, { name := "T_SHORT", type := .int, accessFlags := 25, slot := 16, constantValue := 0 }, { name := "T_INT", type := .int, accessFlags := 25, slot := 17, constantValue := 0 }, { name := "T_LONG", type := .int, accessFlags := 25, slot := 18, constantValue := 0 }, { name := "JLA", type := (.object "jdk/internal/access/JavaLangAccess"), accessFlags := 26, slot := 19, constantValue := 0 }, { name := "SOFT_MAX_ARRAY_LENGTH", type := .int, accessFlags := 25, slot := 20, constantValue := 0 }]
  methods := #[k18m0]
  instanceTypes := #[]
  staticTypes := #[(.object "jdk/internal/misc/Unsafe"), .boolean, .int, .int, .int, .int, .int, .int, .int, .int, .int, .int, .int, .int, .int, .int, .int, .int, .int, (.object "jdk/internal/access/JavaLangAccess"), .int]
  resolved := Array.replicate 378 none
  statics := none }

def pool19 : Array CpInfo := pool [(1, u "java/lang/Cloneable"), (0, .class_ 1), (0, u "java/lang/Object"), (0, .class_ 3)] 3

/-- java/lang/Cloneable -/
def k19 : Class := { plain "java/lang/Cloneable" (some 0) with
  accessFlags := 1537
  interfaces := #[]
  cf := some (fileOf pool19 2 #[] #[] 1537 4 #[] #[])
  fields := #[]
  methods := #[]
  instanceTypes := #[]
  staticTypes := #[]
  resolved := Array.replicate 8 none
  statics := none }

/-- the primitive byte -/
def k20 : Class := { plain "byte" none with kind := .primitive 'B', accessFlags := 0x411 }
/-- [B -/
def k21 : Class := { plain "[B" (some 0) with kind := .array 20 .byte, interfaces := #[19, 2], accessFlags := 1041 }

/-- the primitive char -/
def k22 : Class := { plain "char" none with kind := .primitive 'C', accessFlags := 0x411 }
/-- [C -/
def k23 : Class := { plain "[C" (some 0) with kind := .array 22 .char, interfaces := #[19, 2], accessFlags := 1041 }

/-- the primitive int -/
def k24 : Class := { plain "int" none with kind := .primitive 'I', accessFlags := 0x411 }
/-- [I -/
def k25 : Class := { plain "[I" (some 0) with kind := .array 24 .int, interfaces := #[19, 2], accessFlags := 1041 }

/-- [Ljava/lang/Integer; -/
def k26 : Class := { plain "[Ljava/lang/Integer;" (some 0) with kind := .array 14 (.object "java/lang/Integer"), interfaces := #[19, 2], accessFlags := 1041 }

/-- [Ljava/lang/Long; -/
def k27 : Class := { plain "[Ljava/lang/Long;" (some 0) with kind := .array 12 (.object "java/lang/Long"), interfaces := #[19, 2], accessFlags := 1041 }

def heap : Heap := #[{ cls := 7, slots := #[.long 0, .int 1, .null, .int 0, .null, .int 0, .int 0], vm := .statics 7 },
  { cls := 13, slots := #[.ref 4, .null, .int 0], vm := .statics 13 },
  { cls := 15, slots := #[.int 0, .int 127, .ref 5, .null, .int 0], vm := .statics 15 },
  { cls := 17, slots := #[.null, .null, .null], vm := .statics 17 },
  { cls := 27, slots := #[.ref 262, .ref 263, .ref 264, .ref 265, .ref 266, .ref 267, .ref 268, .ref 269, .ref 270, .ref 271, .ref 272, .ref 273, .ref 274, .ref 275, .ref 276, .ref 277, .ref 278, .ref 279, .ref 280, .ref 281, .ref 282, .ref 283, .ref 284, .ref 285, .ref 286, .ref 287, .ref 288, .ref 289, .ref 290, .ref 291, .ref 292, .ref 293, .ref 294, .ref 295, .ref 296, .ref 297, .ref 298, .ref 299, .ref 300, .ref 301, .ref 302, .ref 303, .ref 304, .ref 305, .ref 306, .ref 307, .ref 308, .ref 309, .ref 310, .ref 311, .ref 312, .ref 313, .ref 314, .ref 315, .ref 316, .ref 317, .ref 318, .ref 319, .ref 320, .ref 321, .ref 322, .ref 323, .ref 324, .ref 325, .ref 326, .ref 327, .ref 328, .ref 329, .ref 330, .ref 331, .ref 332, .ref 333, .ref 334, .ref 335, .ref 336, .ref 337, .ref 338, .ref 339, .ref 340, .ref 341, .ref 342, .ref 343, .ref 344, .ref 345, .ref 346, .ref 347, .ref 348, .ref 349, .ref 350, .ref 351, .ref 352, .ref 353, .ref 354, .ref 355, .ref 356, .ref 357, .ref 358, .ref 359, .ref 360, .ref 361, .ref 362, .ref 363, .ref 364, .ref 365, .ref 366, .ref 367, .ref 368, .ref 369, .ref 370, .ref 371, .ref 372, .ref 373, .ref 374, .ref 375, .ref 376, .ref 377, .ref 378, .ref 379, .ref 380, .ref 381, .ref 382, .ref 383, .ref 384, .ref 385, .ref 386, .ref 387, .ref 388, .ref 389, .ref 390, .ref 391, .ref 392, .ref 393, .ref 394, .ref 395, .ref 396, .ref 397, .ref 398, .ref 399, .ref 400, .ref 401, .ref 402, .ref 403, .ref 404, .ref 405, .ref 406, .ref 407, .ref 408, .ref 409, .ref 410, .ref 411, .ref 412, .ref 413, .ref 414, .ref 415, .ref 416, .ref 417, .ref 418, .ref 419, .ref 420, .ref 421, .ref 422, .ref 423, .ref 424, .ref 425, .ref 426, .ref 427, .ref 428, .ref 429, .ref 430, .ref 431, .ref 432, .ref 433, .ref 434, .ref 435, .ref 436, .ref 437, .ref 438, .ref 439, .ref 440, .ref 441, .ref 442, .ref 443, .ref 444, .ref 445, .ref 446, .ref 447, .ref 448, .ref 449, .ref 450, .ref 451, .ref 452, .ref 453, .ref 454, .ref 455, .ref 456, .ref 457, .ref 458, .ref 459, .ref 460, .ref 461, .ref 462, .ref 463, .ref 464, .ref 465, .ref 466, .ref 467, .ref 468, .ref 469, .ref 470, .ref 471, .ref 472, .ref 473, .ref 474, .ref 475, .ref 476, .ref 477, .ref 478, .ref 479, .ref 480, .ref 481, .ref 482, .ref 483, .ref 484, .ref 485, .ref 486, .ref 487, .ref 488, .ref 489, .ref 490, .ref 491, .ref 492, .ref 493, .ref 494, .ref 495, .ref 496, .ref 497, .ref 498, .ref 499, .ref 500, .ref 501, .ref 502, .ref 503, .ref 504, .ref 505, .ref 506, .ref 507, .ref 508, .ref 509, .ref 510, .ref 511, .ref 512, .ref 513, .ref 514, .ref 515, .ref 516, .ref 517], vm := .none },
  { cls := 26, slots := #[.ref 6, .ref 7, .ref 8, .ref 9, .ref 10, .ref 11, .ref 12, .ref 13, .ref 14, .ref 15, .ref 16, .ref 17, .ref 18, .ref 19, .ref 20, .ref 21, .ref 22, .ref 23, .ref 24, .ref 25, .ref 26, .ref 27, .ref 28, .ref 29, .ref 30, .ref 31, .ref 32, .ref 33, .ref 34, .ref 35, .ref 36, .ref 37, .ref 38, .ref 39, .ref 40, .ref 41, .ref 42, .ref 43, .ref 44, .ref 45, .ref 46, .ref 47, .ref 48, .ref 49, .ref 50, .ref 51, .ref 52, .ref 53, .ref 54, .ref 55, .ref 56, .ref 57, .ref 58, .ref 59, .ref 60, .ref 61, .ref 62, .ref 63, .ref 64, .ref 65, .ref 66, .ref 67, .ref 68, .ref 69, .ref 70, .ref 71, .ref 72, .ref 73, .ref 74, .ref 75, .ref 76, .ref 77, .ref 78, .ref 79, .ref 80, .ref 81, .ref 82, .ref 83, .ref 84, .ref 85, .ref 86, .ref 87, .ref 88, .ref 89, .ref 90, .ref 91, .ref 92, .ref 93, .ref 94, .ref 95, .ref 96, .ref 97, .ref 98, .ref 99, .ref 100, .ref 101, .ref 102, .ref 103, .ref 104, .ref 105, .ref 106, .ref 107, .ref 108, .ref 109, .ref 110, .ref 111, .ref 112, .ref 113, .ref 114, .ref 115, .ref 116, .ref 117, .ref 118, .ref 119, .ref 120, .ref 121, .ref 122, .ref 123, .ref 124, .ref 125, .ref 126, .ref 127, .ref 128, .ref 129, .ref 130, .ref 131, .ref 132, .ref 133, .ref 134, .ref 135, .ref 136, .ref 137, .ref 138, .ref 139, .ref 140, .ref 141, .ref 142, .ref 143, .ref 144, .ref 145, .ref 146, .ref 147, .ref 148, .ref 149, .ref 150, .ref 151, .ref 152, .ref 153, .ref 154, .ref 155, .ref 156, .ref 157, .ref 158, .ref 159, .ref 160, .ref 161, .ref 162, .ref 163, .ref 164, .ref 165, .ref 166, .ref 167, .ref 168, .ref 169, .ref 170, .ref 171, .ref 172, .ref 173, .ref 174, .ref 175, .ref 176, .ref 177, .ref 178, .ref 179, .ref 180, .ref 181, .ref 182, .ref 183, .ref 184, .ref 185, .ref 186, .ref 187, .ref 188, .ref 189, .ref 190, .ref 191, .ref 192, .ref 193, .ref 194, .ref 195, .ref 196, .ref 197, .ref 198, .ref 199, .ref 200, .ref 201, .ref 202, .ref 203, .ref 204, .ref 205, .ref 206, .ref 207, .ref 208, .ref 209, .ref 210, .ref 211, .ref 212, .ref 213, .ref 214, .ref 215, .ref 216, .ref 217, .ref 218, .ref 219, .ref 220, .ref 221, .ref 222, .ref 223, .ref 224, .ref 225, .ref 226, .ref 227, .ref 228, .ref 229, .ref 230, .ref 231, .ref 232, .ref 233, .ref 234, .ref 235, .ref 236, .ref 237, .ref 238, .ref 239, .ref 240, .ref 241, .ref 242, .ref 243, .ref 244, .ref 245, .ref 246, .ref 247, .ref 248, .ref 249, .ref 250, .ref 251, .ref 252, .ref 253, .ref 254, .ref 255, .ref 256, .ref 257, .ref 258, .ref 259, .ref 260, .ref 261], vm := .none },
  { cls := 14, slots := #[.int (-128)] },
  { cls := 14, slots := #[.int (-127)] },
  { cls := 14, slots := #[.int (-126)] },
  { cls := 14, slots := #[.int (-125)] },
  { cls := 14, slots := #[.int (-124)] },
  { cls := 14, slots := #[.int (-123)] },
  { cls := 14, slots := #[.int (-122)] },
  { cls := 14, slots := #[.int (-121)] },
  { cls := 14, slots := #[.int (-120)] },
  { cls := 14, slots := #[.int (-119)] },
  { cls := 14, slots := #[.int (-118)] },
  { cls := 14, slots := #[.int (-117)] },
  { cls := 14, slots := #[.int (-116)] },
  { cls := 14, slots := #[.int (-115)] },
  { cls := 14, slots := #[.int (-114)] },
  { cls := 14, slots := #[.int (-113)] },
  { cls := 14, slots := #[.int (-112)] },
  { cls := 14, slots := #[.int (-111)] },
  { cls := 14, slots := #[.int (-110)] },
  { cls := 14, slots := #[.int (-109)] },
  { cls := 14, slots := #[.int (-108)] },
  { cls := 14, slots := #[.int (-107)] },
  { cls := 14, slots := #[.int (-106)] },
  { cls := 14, slots := #[.int (-105)] },
  { cls := 14, slots := #[.int (-104)] },
  { cls := 14, slots := #[.int (-103)] },
  { cls := 14, slots := #[.int (-102)] },
  { cls := 14, slots := #[.int (-101)] },
  { cls := 14, slots := #[.int (-100)] },
  { cls := 14, slots := #[.int (-99)] },
  { cls := 14, slots := #[.int (-98)] },
  { cls := 14, slots := #[.int (-97)] },
  { cls := 14, slots := #[.int (-96)] },
  { cls := 14, slots := #[.int (-95)] },
  { cls := 14, slots := #[.int (-94)] },
  { cls := 14, slots := #[.int (-93)] },
  { cls := 14, slots := #[.int (-92)] },
  { cls := 14, slots := #[.int (-91)] },
  { cls := 14, slots := #[.int (-90)] },
  { cls := 14, slots := #[.int (-89)] },
  { cls := 14, slots := #[.int (-88)] },
  { cls := 14, slots := #[.int (-87)] },
  { cls := 14, slots := #[.int (-86)] },
  { cls := 14, slots := #[.int (-85)] },
  { cls := 14, slots := #[.int (-84)] },
  { cls := 14, slots := #[.int (-83)] },
  { cls := 14, slots := #[.int (-82)] },
  { cls := 14, slots := #[.int (-81)] },
  { cls := 14, slots := #[.int (-80)] },
  { cls := 14, slots := #[.int (-79)] },
  { cls := 14, slots := #[.int (-78)] },
  { cls := 14, slots := #[.int (-77)] },
  { cls := 14, slots := #[.int (-76)] },
  { cls := 14, slots := #[.int (-75)] },
  { cls := 14, slots := #[.int (-74)] },
  { cls := 14, slots := #[.int (-73)] },
  { cls := 14, slots := #[.int (-72)] },
  { cls := 14, slots := #[.int (-71)] },
  { cls := 14, slots := #[.int (-70)] },
  { cls := 14, slots := #[.int (-69)] },
  { cls := 14, slots := #[.int (-68)] },
  { cls := 14, slots := #[.int (-67)] },
  { cls := 14, slots := #[.int (-66)] },
  { cls := 14, slots := #[.int (-65)] },
  { cls := 14, slots := #[.int (-64)] },
  { cls := 14, slots := #[.int (-63)] },
  { cls := 14, slots := #[.int (-62)] },
  { cls := 14, slots := #[.int (-61)] },
  { cls := 14, slots := #[.int (-60)] },
  { cls := 14, slots := #[.int (-59)] },
  { cls := 14, slots := #[.int (-58)] },
  { cls := 14, slots := #[.int (-57)] },
  { cls := 14, slots := #[.int (-56)] },
  { cls := 14, slots := #[.int (-55)] },
  { cls := 14, slots := #[.int (-54)] },
  { cls := 14, slots := #[.int (-53)] },
  { cls := 14, slots := #[.int (-52)] },
  { cls := 14, slots := #[.int (-51)] },
  { cls := 14, slots := #[.int (-50)] },
  { cls := 14, slots := #[.int (-49)] },
  { cls := 14, slots := #[.int (-48)] },
  { cls := 14, slots := #[.int (-47)] },
  { cls := 14, slots := #[.int (-46)] },
  { cls := 14, slots := #[.int (-45)] },
  { cls := 14, slots := #[.int (-44)] },
  { cls := 14, slots := #[.int (-43)] },
  { cls := 14, slots := #[.int (-42)] },
  { cls := 14, slots := #[.int (-41)] },
  { cls := 14, slots := #[.int (-40)] },
  { cls := 14, slots := #[.int (-39)] },
  { cls := 14, slots := #[.int (-38)] },
  { cls := 14, slots := #[.int (-37)] },
  { cls := 14, slots := #[.int (-36)] },
  { cls := 14, slots := #[.int (-35)] },
  { cls := 14, slots := #[.int (-34)] },
  { cls := 14, slots := #[.int (-33)] },
  { cls := 14, slots := #[.int (-32)] },
  { cls := 14, slots := #[.int (-31)] },
  { cls := 14, slots := #[.int (-30)] },
  { cls := 14, slots := #[.int (-29)] },
  { cls := 14, slots := #[.int (-28)] },
  { cls := 14, slots := #[.int (-27)] },
  { cls := 14, slots := #[.int (-26)] },
  { cls := 14, slots := #[.int (-25)] },
  { cls := 14, slots := #[.int (-24)] },
  { cls := 14, slots := #[.int (-23)] },
  { cls := 14, slots := #[.int (-22)] },
  { cls := 14, slots := #[.int (-21)] },
  { cls := 14, slots := #[.int (-20)] },
  { cls := 14, slots := #[.int (-19)] },
  { cls := 14, slots := #[.int (-18)] },
  { cls := 14, slots := #[.int (-17)] },
  { cls := 14, slots := #[.int (-16)] },
  { cls := 14, slots := #[.int (-15)] },
  { cls := 14, slots := #[.int (-14)] },
  { cls := 14, slots := #[.int (-13)] },
  { cls := 14, slots := #[.int (-12)] },
  { cls := 14, slots := #[.int (-11)] },
  { cls := 14, slots := #[.int (-10)] },
  { cls := 14, slots := #[.int (-9)] },
  { cls := 14, slots := #[.int (-8)] },
  { cls := 14, slots := #[.int (-7)] },
  { cls := 14, slots := #[.int (-6)] },
  { cls := 14, slots := #[.int (-5)] },
  { cls := 14, slots := #[.int (-4)] },
  { cls := 14, slots := #[.int (-3)] },
  { cls := 14, slots := #[.int (-2)] },
  { cls := 14, slots := #[.int (-1)] },
  { cls := 14, slots := #[.int (0)] },
  { cls := 14, slots := #[.int (1)] },
  { cls := 14, slots := #[.int (2)] },
  { cls := 14, slots := #[.int (3)] },
  { cls := 14, slots := #[.int (4)] },
  { cls := 14, slots := #[.int (5)] },
  { cls := 14, slots := #[.int (6)] },
  { cls := 14, slots := #[.int (7)] },
  { cls := 14, slots := #[.int (8)] },
  { cls := 14, slots := #[.int (9)] },
  { cls := 14, slots := #[.int (10)] },
  { cls := 14, slots := #[.int (11)] },
  { cls := 14, slots := #[.int (12)] },
  { cls := 14, slots := #[.int (13)] },
  { cls := 14, slots := #[.int (14)] },
  { cls := 14, slots := #[.int (15)] },
  { cls := 14, slots := #[.int (16)] },
  { cls := 14, slots := #[.int (17)] },
  { cls := 14, slots := #[.int (18)] },
  { cls := 14, slots := #[.int (19)] },
  { cls := 14, slots := #[.int (20)] },
  { cls := 14, slots := #[.int (21)] },
  { cls := 14, slots := #[.int (22)] },
  { cls := 14, slots := #[.int (23)] },
  { cls := 14, slots := #[.int (24)] },
  { cls := 14, slots := #[.int (25)] },
  { cls := 14, slots := #[.int (26)] },
  { cls := 14, slots := #[.int (27)] },
  { cls := 14, slots := #[.int (28)] },
  { cls := 14, slots := #[.int (29)] },
  { cls := 14, slots := #[.int (30)] },
  { cls := 14, slots := #[.int (31)] },
  { cls := 14, slots := #[.int (32)] },
  { cls := 14, slots := #[.int (33)] },
  { cls := 14, slots := #[.int (34)] },
  { cls := 14, slots := #[.int (35)] },
  { cls := 14, slots := #[.int (36)] },
  { cls := 14, slots := #[.int (37)] },
  { cls := 14, slots := #[.int (38)] },
  { cls := 14, slots := #[.int (39)] },
  { cls := 14, slots := #[.int (40)] },
  { cls := 14, slots := #[.int (41)] },
  { cls := 14, slots := #[.int (42)] },
  { cls := 14, slots := #[.int (43)] },
  { cls := 14, slots := #[.int (44)] },
  { cls := 14, slots := #[.int (45)] },
  { cls := 14, slots := #[.int (46)] },
  { cls := 14, slots := #[.int (47)] },
  { cls := 14, slots := #[.int (48)] },
  { cls := 14, slots := #[.int (49)] },
  { cls := 14, slots := #[.int (50)] },
  { cls := 14, slots := #[.int (51)] },
  { cls := 14, slots := #[.int (52)] },
  { cls := 14, slots := #[.int (53)] },
  { cls := 14, slots := #[.int (54)] },
  { cls := 14, slots := #[.int (55)] },
  { cls := 14, slots := #[.int (56)] },
  { cls := 14, slots := #[.int (57)] },
  { cls := 14, slots := #[.int (58)] },
  { cls := 14, slots := #[.int (59)] },
  { cls := 14, slots := #[.int (60)] },
  { cls := 14, slots := #[.int (61)] },
  { cls := 14, slots := #[.int (62)] },
  { cls := 14, slots := #[.int (63)] },
  { cls := 14, slots := #[.int (64)] },
  { cls := 14, slots := #[.int (65)] },
  { cls := 14, slots := #[.int (66)] },
  { cls := 14, slots := #[.int (67)] },
  { cls := 14, slots := #[.int (68)] },
  { cls := 14, slots := #[.int (69)] },
  { cls := 14, slots := #[.int (70)] },
  { cls := 14, slots := #[.int (71)] },
  { cls := 14, slots := #[.int (72)] },
  { cls := 14, slots := #[.int (73)] },
  { cls := 14, slots := #[.int (74)] },
  { cls := 14, slots := #[.int (75)] },
  { cls := 14, slots := #[.int (76)] },
  { cls := 14, slots := #[.int (77)] },
  { cls := 14, slots := #[.int (78)] },
  { cls := 14, slots := #[.int (79)] },
  { cls := 14, slots := #[.int (80)] },
  { cls := 14, slots := #[.int (81)] },
  { cls := 14, slots := #[.int (82)] },
  { cls := 14, slots := #[.int (83)] },
  { cls := 14, slots := #[.int (84)] },
  { cls := 14, slots := #[.int (85)] },
  { cls := 14, slots := #[.int (86)] },
  { cls := 14, slots := #[.int (87)] },
  { cls := 14, slots := #[.int (88)] },
  { cls := 14, slots := #[.int (89)] },
  { cls := 14, slots := #[.int (90)] },
  { cls := 14, slots := #[.int (91)] },
  { cls := 14, slots := #[.int (92)] },
  { cls := 14, slots := #[.int (93)] },
  { cls := 14, slots := #[.int (94)] },
  { cls := 14, slots := #[.int (95)] },
  { cls := 14, slots := #[.int (96)] },
  { cls := 14, slots := #[.int (97)] },
  { cls := 14, slots := #[.int (98)] },
  { cls := 14, slots := #[.int (99)] },
  { cls := 14, slots := #[.int (100)] },
  { cls := 14, slots := #[.int (101)] },
  { cls := 14, slots := #[.int (102)] },
  { cls := 14, slots := #[.int (103)] },
  { cls := 14, slots := #[.int (104)] },
  { cls := 14, slots := #[.int (105)] },
  { cls := 14, slots := #[.int (106)] },
  { cls := 14, slots := #[.int (107)] },
  { cls := 14, slots := #[.int (108)] },
  { cls := 14, slots := #[.int (109)] },
  { cls := 14, slots := #[.int (110)] },
  { cls := 14, slots := #[.int (111)] },
  { cls := 14, slots := #[.int (112)] },
  { cls := 14, slots := #[.int (113)] },
  { cls := 14, slots := #[.int (114)] },
  { cls := 14, slots := #[.int (115)] },
  { cls := 14, slots := #[.int (116)] },
  { cls := 14, slots := #[.int (117)] },
  { cls := 14, slots := #[.int (118)] },
  { cls := 14, slots := #[.int (119)] },
  { cls := 14, slots := #[.int (120)] },
  { cls := 14, slots := #[.int (121)] },
  { cls := 14, slots := #[.int (122)] },
  { cls := 14, slots := #[.int (123)] },
  { cls := 14, slots := #[.int (124)] },
  { cls := 14, slots := #[.int (125)] },
  { cls := 14, slots := #[.int (126)] },
  { cls := 14, slots := #[.int (127)] },
  { cls := 12, slots := #[.long (-128)] },
  { cls := 12, slots := #[.long (-127)] },
  { cls := 12, slots := #[.long (-126)] },
  { cls := 12, slots := #[.long (-125)] },
  { cls := 12, slots := #[.long (-124)] },
  { cls := 12, slots := #[.long (-123)] },
  { cls := 12, slots := #[.long (-122)] },
  { cls := 12, slots := #[.long (-121)] },
  { cls := 12, slots := #[.long (-120)] },
  { cls := 12, slots := #[.long (-119)] },
  { cls := 12, slots := #[.long (-118)] },
  { cls := 12, slots := #[.long (-117)] },
  { cls := 12, slots := #[.long (-116)] },
  { cls := 12, slots := #[.long (-115)] },
  { cls := 12, slots := #[.long (-114)] },
  { cls := 12, slots := #[.long (-113)] },
  { cls := 12, slots := #[.long (-112)] },
  { cls := 12, slots := #[.long (-111)] },
  { cls := 12, slots := #[.long (-110)] },
  { cls := 12, slots := #[.long (-109)] },
  { cls := 12, slots := #[.long (-108)] },
  { cls := 12, slots := #[.long (-107)] },
  { cls := 12, slots := #[.long (-106)] },
  { cls := 12, slots := #[.long (-105)] },
  { cls := 12, slots := #[.long (-104)] },
  { cls := 12, slots := #[.long (-103)] },
  { cls := 12, slots := #[.long (-102)] },
  { cls := 12, slots := #[.long (-101)] },
  { cls := 12, slots := #[.long (-100)] },
  { cls := 12, slots := #[.long (-99)] },
  { cls := 12, slots := #[.long (-98)] },
  { cls := 12, slots := #[.long (-97)] },
  { cls := 12, slots := #[.long (-96)] },
  { cls := 12, slots := #[.long (-95)] },
  { cls := 12, slots := #[.long (-94)] },
  { cls := 12, slots := #[.long (-93)] },
  { cls := 12, slots := #[.long (-92)] },
  { cls := 12, slots := #[.long (-91)] },
  { cls := 12, slots := #[.long (-90)] },
  { cls := 12, slots := #[.long (-89)] },
  { cls := 12, slots := #[.long (-88)] },
  { cls := 12, slots := #[.long (-87)] },
  { cls := 12, slots := #[.long (-86)] },
  { cls := 12, slots := #[.long (-85)] },
  { cls := 12, slots := #[.long (-84)] },
  { cls := 12, slots := #[.long (-83)] },
  { cls := 12, slots := #[.long (-82)] },
  { cls := 12, slots := #[.long (-81)] },
  { cls := 12, slots := #[.long (-80)] },
  { cls := 12, slots := #[.long (-79)] },
  { cls := 12, slots := #[.long (-78)] },
  { cls := 12, slots := #[.long (-77)] },
  { cls := 12, slots := #[.long (-76)] },
  { cls := 12, slots := #[.long (-75)] },
  { cls := 12, slots := #[.long (-74)] },
  { cls := 12, slots := #[.long (-73)] },
  { cls := 12, slots := #[.long (-72)] },
  { cls := 12, slots := #[.long (-71)] },
  { cls := 12, slots := #[.long (-70)] },
  { cls := 12, slots := #[.long (-69)] },
  { cls := 12, slots := #[.long (-68)] },
  { cls := 12, slots := #[.long (-67)] },
  { cls := 12, slots := #[.long (-66)] },
  { cls := 12, slots := #[.long (-65)] },
  { cls := 12, slots := #[.long (-64)] },
  { cls := 12, slots := #[.long (-63)] },
  { cls := 12, slots := #[.long (-62)] },
  { cls := 12, slots := #[.long (-61)] },
  { cls := 12, slots := #[.long (-60)] },
  { cls := 12, slots := #[.long (-59)] },
  { cls := 12, slots := #[.long (-58)] },
  { cls := 12, slots := #[.long (-57)] },
  { cls := 12, slots := #[.long (-56)] },
  { cls := 12, slots := #[.long (-55)] },
  { cls := 12, slots := #[.long (-54)] },
  { cls := 12, slots := #[.long (-53)] },
  { cls := 12, slots := #[.long (-52)] },
  { cls := 12, slots := #[.long (-51)] },
  { cls := 12, slots := #[.long (-50)] },
  { cls := 12, slots := #[.long (-49)] },
  { cls := 12, slots := #[.long (-48)] },
  { cls := 12, slots := #[.long (-47)] },
  { cls := 12, slots := #[.long (-46)] },
  { cls := 12, slots := #[.long (-45)] },
  { cls := 12, slots := #[.long (-44)] },
  { cls := 12, slots := #[.long (-43)] },
  { cls := 12, slots := #[.long (-42)] },
  { cls := 12, slots := #[.long (-41)] },
  { cls := 12, slots := #[.long (-40)] },
  { cls := 12, slots := #[.long (-39)] },
  { cls := 12, slots := #[.long (-38)] },
  { cls := 12, slots := #[.long (-37)] },
  { cls := 12, slots := #[.long (-36)] },
  { cls := 12, slots := #[.long (-35)] },
  { cls := 12, slots := #[.long (-34)] },
  { cls := 12, slots := #[.long (-33)] },
  { cls := 12, slots := #[.long (-32)] },
  { cls := 12, slots := #[.long (-31)] },
  { cls := 12, slots := #[.long (-30)] },
  { cls := 12, slots := #[.long (-29)] },
  { cls := 12, slots := #[.long (-28)] },
  { cls := 12, slots := #[.long (-27)] },
  { cls := 12, slots := #[.long (-26)] },
  { cls := 12, slots := #[.long (-25)] },
  { cls := 12, slots := #[.long (-24)] },
  { cls := 12, slots := #[.long (-23)] },
  { cls := 12, slots := #[.long (-22)] },
  { cls := 12, slots := #[.long (-21)] },
  { cls := 12, slots := #[.long (-20)] },
  { cls := 12, slots := #[.long (-19)] },
  { cls := 12, slots := #[.long (-18)] },
  { cls := 12, slots := #[.long (-17)] },
  { cls := 12, slots := #[.long (-16)] },
  { cls := 12, slots := #[.long (-15)] },
  { cls := 12, slots := #[.long (-14)] },
  { cls := 12, slots := #[.long (-13)] },
  { cls := 12, slots := #[.long (-12)] },
  { cls := 12, slots := #[.long (-11)] },
  { cls := 12, slots := #[.long (-10)] },
  { cls := 12, slots := #[.long (-9)] },
  { cls := 12, slots := #[.long (-8)] },
  { cls := 12, slots := #[.long (-7)] },
  { cls := 12, slots := #[.long (-6)] },
  { cls := 12, slots := #[.long (-5)] },
  { cls := 12, slots := #[.long (-4)] },
  { cls := 12, slots := #[.long (-3)] },
  { cls := 12, slots := #[.long (-2)] },
  { cls := 12, slots := #[.long (-1)] },
  { cls := 12, slots := #[.long (0)] },
  { cls := 12, slots := #[.long (1)] },
  { cls := 12, slots := #[.long (2)] },
  { cls := 12, slots := #[.long (3)] },
  { cls := 12, slots := #[.long (4)] },
  { cls := 12, slots := #[.long (5)] },
  { cls := 12, slots := #[.long (6)] },
  { cls := 12, slots := #[.long (7)] },
  { cls := 12, slots := #[.long (8)] },
  { cls := 12, slots := #[.long (9)] },
  { cls := 12, slots := #[.long (10)] },
  { cls := 12, slots := #[.long (11)] },
  { cls := 12, slots := #[.long (12)] },
  { cls := 12, slots := #[.long (13)] },
  { cls := 12, slots := #[.long (14)] },
  { cls := 12, slots := #[.long (15)] },
  { cls := 12, slots := #[.long (16)] },
  { cls := 12, slots := #[.long (17)] },
  { cls := 12, slots := #[.long (18)] },
  { cls := 12, slots := #[.long (19)] },
  { cls := 12, slots := #[.long (20)] },
  { cls := 12, slots := #[.long (21)] },
  { cls := 12, slots := #[.long (22)] },
  { cls := 12, slots := #[.long (23)] },
  { cls := 12, slots := #[.long (24)] },
  { cls := 12, slots := #[.long (25)] },
  { cls := 12, slots := #[.long (26)] },
  { cls := 12, slots := #[.long (27)] },
  { cls := 12, slots := #[.long (28)] },
  { cls := 12, slots := #[.long (29)] },
  { cls := 12, slots := #[.long (30)] },
  { cls := 12, slots := #[.long (31)] },
  { cls := 12, slots := #[.long (32)] },
  { cls := 12, slots := #[.long (33)] },
  { cls := 12, slots := #[.long (34)] },
  { cls := 12, slots := #[.long (35)] },
  { cls := 12, slots := #[.long (36)] },
  { cls := 12, slots := #[.long (37)] },
  { cls := 12, slots := #[.long (38)] },
  { cls := 12, slots := #[.long (39)] },
  { cls := 12, slots := #[.long (40)] },
  { cls := 12, slots := #[.long (41)] },
  { cls := 12, slots := #[.long (42)] },
  { cls := 12, slots := #[.long (43)] },
  { cls := 12, slots := #[.long (44)] },
  { cls := 12, slots := #[.long (45)] },
  { cls := 12, slots := #[.long (46)] },
  { cls := 12, slots := #[.long (47)] },
  { cls := 12, slots := #[.long (48)] },
  { cls := 12, slots := #[.long (49)] },
  { cls := 12, slots := #[.long (50)] },
  { cls := 12, slots := #[.long (51)] },
  { cls := 12, slots := #[.long (52)] },
  { cls := 12, slots := #[.long (53)] },
  { cls := 12, slots := #[.long (54)] },
  { cls := 12, slots := #[.long (55)] },
  { cls := 12, slots := #[.long (56)] },
  { cls := 12, slots := #[.long (57)] },
  { cls := 12, slots := #[.long (58)] },
  { cls := 12, slots := #[.long (59)] },
  { cls := 12, slots := #[.long (60)] },
  { cls := 12, slots := #[.long (61)] },
  { cls := 12, slots := #[.long (62)] },
  { cls := 12, slots := #[.long (63)] },
  { cls := 12, slots := #[.long (64)] },
  { cls := 12, slots := #[.long (65)] },
  { cls := 12, slots := #[.long (66)] },
  { cls := 12, slots := #[.long (67)] },
  { cls := 12, slots := #[.long (68)] },
  { cls := 12, slots := #[.long (69)] },
  { cls := 12, slots := #[.long (70)] },
  { cls := 12, slots := #[.long (71)] },
  { cls := 12, slots := #[.long (72)] },
  { cls := 12, slots := #[.long (73)] },
  { cls := 12, slots := #[.long (74)] },
  { cls := 12, slots := #[.long (75)] },
  { cls := 12, slots := #[.long (76)] },
  { cls := 12, slots := #[.long (77)] },
  { cls := 12, slots := #[.long (78)] },
  { cls := 12, slots := #[.long (79)] },
  { cls := 12, slots := #[.long (80)] },
  { cls := 12, slots := #[.long (81)] },
  { cls := 12, slots := #[.long (82)] },
  { cls := 12, slots := #[.long (83)] },
  { cls := 12, slots := #[.long (84)] },
  { cls := 12, slots := #[.long (85)] },
  { cls := 12, slots := #[.long (86)] },
  { cls := 12, slots := #[.long (87)] },
  { cls := 12, slots := #[.long (88)] },
  { cls := 12, slots := #[.long (89)] },
  { cls := 12, slots := #[.long (90)] },
  { cls := 12, slots := #[.long (91)] },
  { cls := 12, slots := #[.long (92)] },
  { cls := 12, slots := #[.long (93)] },
  { cls := 12, slots := #[.long (94)] },
  { cls := 12, slots := #[.long (95)] },
  { cls := 12, slots := #[.long (96)] },
  { cls := 12, slots := #[.long (97)] },
  { cls := 12, slots := #[.long (98)] },
  { cls := 12, slots := #[.long (99)] },
  { cls := 12, slots := #[.long (100)] },
  { cls := 12, slots := #[.long (101)] },
  { cls := 12, slots := #[.long (102)] },
  { cls := 12, slots := #[.long (103)] },
  { cls := 12, slots := #[.long (104)] },
  { cls := 12, slots := #[.long (105)] },
  { cls := 12, slots := #[.long (106)] },
  { cls := 12, slots := #[.long (107)] },
  { cls := 12, slots := #[.long (108)] },
  { cls := 12, slots := #[.long (109)] },
  { cls := 12, slots := #[.long (110)] },
  { cls := 12, slots := #[.long (111)] },
  { cls := 12, slots := #[.long (112)] },
  { cls := 12, slots := #[.long (113)] },
  { cls := 12, slots := #[.long (114)] },
  { cls := 12, slots := #[.long (115)] },
  { cls := 12, slots := #[.long (116)] },
  { cls := 12, slots := #[.long (117)] },
  { cls := 12, slots := #[.long (118)] },
  { cls := 12, slots := #[.long (119)] },
  { cls := 12, slots := #[.long (120)] },
  { cls := 12, slots := #[.long (121)] },
  { cls := 12, slots := #[.long (122)] },
  { cls := 12, slots := #[.long (123)] },
  { cls := 12, slots := #[.long (124)] },
  { cls := 12, slots := #[.long (125)] },
  { cls := 12, slots := #[.long (126)] },
  { cls := 12, slots := #[.long (127)] }]
def classes : Array Class := #[k0, k1, k2, k3, k4, k5, k6, k7, k8, k9, k10, k11, k12, k13, k14, k15, k16, k17, k18, k19, k20, k21, k22, k23, k24, k25, k26, k27]
def interned : List (Array UInt16 × Addr) := []
def slotsUsed : Nat := 1042
def theMethod : MethodId := ⟨1, 1⟩
def args0 : Array Value := #[.int 3, .long 5, .int 7, .int 9, .int 1]
def aboutOver (below : List Frame) : State where
  vm := { classes := classes, interned := interned.toArray }
  heap := heap
  slotsUsed := slotsUsed
  threads := #[{ frames := .invoking theMethod args0 :: below }]
def below0 : List Frame := [.native { method := ⟨0, 0⟩, args := #[] }]
def about1 : State := aboutOver below0
def p0 : Program := .bare "" "" ""
def e0 : Env := launch0.env 0 0 0
theorem w_frames : about1.frames = Frame.invoking theMethod args0 :: below0 := rfl
set_option maxRecDepth 65536 in
theorem w_args : argsFit about1.vm theMethod args0 = true := by decide +kernel
set_option maxRecDepth 65536 in
theorem w_heap : heapFits about1 = true := by decide +kernel
set_option maxRecDepth 65536 in
theorem w_runnable : about1.curStatus? = some .runnable := by decide +kernel
set_option maxRecDepth 65536 in
theorem w_alone : about1.alone = true := by decide +kernel
set_option maxRecDepth 65536 in
theorem w_named : about1.methodNamed? x = some theMethod := by decide +kernel
set_option maxRecDepth 65536 in
theorem w_hears : about1.hears theMethod below0 = true := by decide +kernel
set_option maxRecDepth 65536 in
theorem w_ripe : about1.ripe theMethod args0 below0 = true := by decide +kernel
theorem w_running : about1.status = .running := rfl
set_option maxRecDepth 65536 in
theorem w_room : about1.hasRoom e0.platform room_1 = true :=
  launch0.hasRoom_least _ room_1 (by decide +kernel) (by decide +kernel) (by decide +kernel) (by decide +kernel) (by decide +kernel) (by decide +kernel)
theorem allAtoms_all (ts : List Jvm.Cond) (a : Array Jvm.Value) (st : Jvm.State) : (allAtoms ts).before a st = ts.all (fun c => c.before a st) := by
  induction ts with
  | nil => rfl
  | cons c t ih =>
    show (Jvm.Cond.and c (allAtoms t)).before a st = _
    rw [Jvm.Cond.before_and, ih, List.all_cons]
def words1 : List Jvm.Cond := Jvm.Cond.code x code maxLocals ret :: tables_1
/-- a 'code' word, met by the world's own term for the bytes: nothing is compared byte by byte -/
theorem code_word {y : MethodName} {bytes : ByteArray} {mx : Nat} {rt : Option FieldType} {a : Array Value} {s : State} {m : MethodId} {meth : Method} {c : Code} (h1 : s.methodNamed? y = some m) (h2 : s.vm.method? m = some meth) (h3 : meth.code = some c) (h4 : c.code = bytes)
    (h5 : (c.maxLocals == mx && c.exceptionTable.isEmpty && decide (c.maxStack ≤ mostOperands) && decide (meth.sig.returnType = rt) && !meth.locks && decide (parseMethodDescriptor y.desc = some meth.sig)) = true) : (Jvm.Cond.code y bytes mx rt).before a s = true := by
  simp only [Bool.and_eq_true, beq_iff_eq, Bool.not_eq_true', decide_eq_true_eq] at h5
  obtain ⟨⟨⟨⟨⟨g1, g2⟩, g3⟩, g4⟩, g5⟩, g6⟩ := h5
  simp [Cond.before, Cond.holds, Cond.value, h1, h2, h3, h4, g1, g2, g3, g4, g5, g6]
def isCode : Jvm.Cond → Bool
  | .code _ _ _ _ => true
  | _ => false
theorem all_split {L : List Jvm.Cond} {P : Jvm.Cond → Bool} (h1 : L.all (fun c => isCode c || P c) = true) (h2 : ∀ c ∈ L.filter isCode, P c = true) : L.all P = true := by
  refine List.all_eq_true.mpr fun c hc => ?_
  have h := List.all_eq_true.mp h1 c hc
  rcases Bool.eq_false_or_eq_true (isCode c) with hi | hi
  · exact h2 c (List.mem_filter.mpr ⟨hc, hi⟩)
  · simpa [hi] using h
set_option maxRecDepth 65536 in
theorem w_c0 : (Jvm.Cond.code x code maxLocals ret).before args0 about1 = true := code_word (m := ⟨1, 1⟩) (meth := k1m1) (c := k1c1) (by decide +kernel) rfl rfl rfl (by decide +kernel)
set_option maxRecDepth 65536 in
theorem w_c1 : (Jvm.Cond.code ({ cls := "java/lang/String", name := "<init>", desc := "([C)V" } : Jvm.MethodName) jdk_42_method_3_code (2 : Nat) (Option.none : Option Jvm.ClassFile.FieldType)).before args0 about1 = true := code_word (m := ⟨7, 1⟩) (meth := k7m1) (c := k7c1) (by decide +kernel) rfl rfl rfl (by decide +kernel)
set_option maxRecDepth 65536 in
theorem w_c2 : (Jvm.Cond.code ({ cls := "java/lang/String", name := "<init>", desc := "([CIILjava/lang/Void;)V" } : Jvm.MethodName) jdk_42_method_149_code (6 : Nat) (Option.none : Option Jvm.ClassFile.FieldType)).before args0 about1 = true := code_word (m := ⟨7, 2⟩) (meth := k7m2) (c := k7c2) (by decide +kernel) rfl rfl rfl (by decide +kernel)
set_option maxRecDepth 65536 in
theorem w_c3 : (Jvm.Cond.code ({ cls := "java/lang/Object", name := "<init>", desc := "()V" } : Jvm.MethodName) object_method_1_code (1 : Nat) (Option.none : Option Jvm.ClassFile.FieldType)).before args0 about1 = true := code_word (m := ⟨0, 0⟩) (meth := k0m0) (c := k0c0) (by decide +kernel) rfl rfl rfl (by decide +kernel)
set_option maxRecDepth 65536 in
theorem w_c4 : (Jvm.Cond.code ({ cls := "com/example/underwright/underwright/eligibility/Fact", name := "of", desc := "(Ljava/lang/Object;)Lcom/example/underwright/underwright/eligibility/Fact;" } : Jvm.MethodName) prog_14_method_2_code (1 : Nat) (Option.some (Jvm.ClassFile.FieldType.object "com/example/underwright/underwright/eligibility/Fact"))).before args0 about1 = true := code_word (m := ⟨9, 1⟩) (meth := k9m1) (c := k9c1) (by decide +kernel) rfl rfl rfl (by decide +kernel)
set_option maxRecDepth 65536 in
theorem w_c5 : (Jvm.Cond.code ({ cls := "com/example/underwright/underwright/eligibility/Fact", name := "<init>", desc := "(Ljava/lang/Object;Lcom/example/underwright/underwright/eligibility/Unknown;)V" } : Jvm.MethodName) prog_14_method_1_code (3 : Nat) (Option.none : Option Jvm.ClassFile.FieldType)).before args0 about1 = true := code_word (m := ⟨9, 0⟩) (meth := k9m0) (c := k9c0) (by decide +kernel) rfl rfl rfl (by decide +kernel)
set_option maxRecDepth 65536 in
theorem w_c6 : (Jvm.Cond.code ({ cls := "java/lang/Record", name := "<init>", desc := "()V" } : Jvm.MethodName) jdk_30_method_1_code (1 : Nat) (Option.none : Option Jvm.ClassFile.FieldType)).before args0 about1 = true := code_word (m := ⟨8, 0⟩) (meth := k8m0) (c := k8c0) (by decide +kernel) rfl rfl rfl (by decide +kernel)
set_option maxRecDepth 65536 in
theorem w_c7 : (Jvm.Cond.code ({ cls := "com/example/underwright/underwright/eligibility/Fact", name := "value", desc := "()Ljava/lang/Object;" } : Jvm.MethodName) prog_14_method_11_code (1 : Nat) (Option.some (Jvm.ClassFile.FieldType.object "java/lang/Object"))).before args0 about1 = true := code_word (m := ⟨9, 3⟩) (meth := k9m3) (c := k9c3) (by decide +kernel) rfl rfl rfl (by decide +kernel)
set_option maxRecDepth 65536 in
theorem w_c8 : (Jvm.Cond.code ({ cls := "com/example/underwright/underwright/eligibility/Fact", name := "unknown", desc := "()Lcom/example/underwright/underwright/eligibility/Unknown;" } : Jvm.MethodName) prog_14_method_12_code (1 : Nat) (Option.some (Jvm.ClassFile.FieldType.object "com/example/underwright/underwright/eligibility/Unknown"))).before args0 about1 = true := code_word (m := ⟨9, 4⟩) (meth := k9m4) (c := k9c4) (by decide +kernel) rfl rfl rfl (by decide +kernel)
set_option maxRecDepth 65536 in
theorem w_c9 : (Jvm.Cond.code ({ cls := "com/example/underwright/underwright/eligibility/Fact", name := "isKnown", desc := "()Z" } : Jvm.MethodName) prog_14_method_7_code (1 : Nat) (Option.some Jvm.ClassFile.FieldType.boolean)).before args0 about1 = true := code_word (m := ⟨9, 2⟩) (meth := k9m2) (c := k9c2) (by decide +kernel) rfl rfl rfl (by decide +kernel)
set_option maxRecDepth 65536 in
theorem w_c10 : (Jvm.Cond.code ({ cls := "java/lang/StringUTF16", name := "compress", desc := "([CII)[B" } : Jvm.MethodName) jdk_52_method_16_code (6 : Nat) (Option.some (Jvm.ClassFile.FieldType.array Jvm.ClassFile.FieldType.byte))).before args0 about1 = true := code_word (m := ⟨10, 2⟩) (meth := k10m2) (c := k10c2) (by decide +kernel) rfl rfl rfl (by decide +kernel)
set_option maxRecDepth 65536 in
theorem w_c11 : (Jvm.Cond.code ({ cls := "java/lang/StringUTF16", name := "compress", desc := "([CI[BII)I" } : Jvm.MethodName) jdk_52_method_21_code (7 : Nat) (Option.some Jvm.ClassFile.FieldType.int)).before args0 about1 = true := code_word (m := ⟨10, 3⟩) (meth := k10m3) (c := k10c3) (by decide +kernel) rfl rfl rfl (by decide +kernel)
set_option maxRecDepth 65536 in
theorem w_c12 : (Jvm.Cond.code ({ cls := "java/lang/StringUTF16", name := "coderFromArrayLen", desc := "([BI)B" } : Jvm.MethodName) jdk_52_method_15_code (2 : Nat) (Option.some Jvm.ClassFile.FieldType.byte)).before args0 about1 = true := code_word (m := ⟨10, 1⟩) (meth := k10m1) (c := k10c1) (by decide +kernel) rfl rfl rfl (by decide +kernel)
set_option maxRecDepth 65536 in
theorem w_c13 : (Jvm.Cond.code ({ cls := "java/lang/Long", name := "valueOf", desc := "(J)Ljava/lang/Long;" } : Jvm.MethodName) jdk_35_method_24_code (3 : Nat) (Option.some (Jvm.ClassFile.FieldType.object "java/lang/Long"))).before args0 about1 = true := code_word (m := ⟨12, 0⟩) (meth := k12m0) (c := k12c0) (by decide +kernel) rfl rfl rfl (by decide +kernel)
set_option maxRecDepth 65536 in
theorem w_c14 : (Jvm.Cond.code ({ cls := "java/lang/Integer", name := "valueOf", desc := "(I)Ljava/lang/Integer;" } : Jvm.MethodName) jdk_33_method_22_code (1 : Nat) (Option.some (Jvm.ClassFile.FieldType.object "java/lang/Integer"))).before args0 about1 = true := code_word (m := ⟨14, 0⟩) (meth := k14m0) (c := k14c0) (by decide +kernel) rfl rfl rfl (by decide +kernel)
set_option maxRecDepth 65536 in
theorem w_c15 : (Jvm.Cond.code ({ cls := "java/lang/Long", name := "<init>", desc := "(J)V" } : Jvm.MethodName) jdk_35_method_26_code (3 : Nat) (Option.none : Option Jvm.ClassFile.FieldType)).before args0 about1 = true := code_word (m := ⟨12, 1⟩) (meth := k12m1) (c := k12c1) (by decide +kernel) rfl rfl rfl (by decide +kernel)
set_option maxRecDepth 65536 in
theorem w_c16 : (Jvm.Cond.code ({ cls := "java/lang/Number", name := "<init>", desc := "()V" } : Jvm.MethodName) jdk_18_method_1_code (1 : Nat) (Option.none : Option Jvm.ClassFile.FieldType)).before args0 about1 = true := code_word (m := ⟨11, 0⟩) (meth := k11m0) (c := k11c0) (by decide +kernel) rfl rfl rfl (by decide +kernel)
set_option maxRecDepth 65536 in
theorem w_c17 : (Jvm.Cond.code ({ cls := "java/lang/Integer", name := "<init>", desc := "(I)V" } : Jvm.MethodName) jdk_33_method_23_code (2 : Nat) (Option.none : Option Jvm.ClassFile.FieldType)).before args0 about1 = true := code_word (m := ⟨14, 1⟩) (meth := k14m1) (c := k14c1) (by decide +kernel) rfl rfl rfl (by decide +kernel)
def codes1 : List Jvm.Cond := [Jvm.Cond.code x code maxLocals ret, Jvm.Cond.code ({ cls := "java/lang/String", name := "<init>", desc := "([C)V" } : Jvm.MethodName) jdk_42_method_3_code (2 : Nat) (Option.none : Option Jvm.ClassFile.FieldType), Jvm.Cond.code ({ cls := "java/lang/String", name := "<init>", desc := "([CIILjava/lang/Void;)V" } : Jvm.MethodName) jdk_42_method_149_code (6 : Nat) (Option.none : Option Jvm.ClassFile.FieldType), Jvm.Cond.code ({ cls := "java/lang/Object", name := "<init>", desc := "()V" } : Jvm.MethodName) object_method_1_code (1 : Nat) (Option.none : Option Jvm.ClassFile.FieldType), Jvm.Cond.code ({ cls := "com/example/underwright/underwright/eligibility/Fact", name := "of", desc := "(Ljava/lang/Object;)Lcom/example/underwright/underwright/eligibility/Fact;" } : Jvm.MethodName) prog_14_method_2_code (1 : Nat) (Option.some (Jvm.ClassFile.FieldType.object "com/example/underwright/underwright/eligibility/Fact")), Jvm.Cond.code ({ cls := "com/example/underwright/underwright/eligibility/Fact", name := "<init>", desc := "(Ljava/lang/Object;Lcom/example/underwright/underwright/eligibility/Unknown;)V" } : Jvm.MethodName) prog_14_method_1_code (3 : Nat) (Option.none : Option Jvm.ClassFile.FieldType), Jvm.Cond.code ({ cls := "java/lang/Record", name := "<init>", desc := "()V" } : Jvm.MethodName) jdk_30_method_1_code (1 : Nat) (Option.none : Option Jvm.ClassFile.FieldType), Jvm.Cond.code ({ cls := "com/example/underwright/underwright/eligibility/Fact", name := "value", desc := "()Ljava/lang/Object;" } : Jvm.MethodName) prog_14_method_11_code (1 : Nat) (Option.some (Jvm.ClassFile.FieldType.object "java/lang/Object")), Jvm.Cond.code ({ cls := "com/example/underwright/underwright/eligibility/Fact", name := "unknown", desc := "()Lcom/example/underwright/underwright/eligibility/Unknown;" } : Jvm.MethodName) prog_14_method_12_code (1 : Nat) (Option.some (Jvm.ClassFile.FieldType.object "com/example/underwright/underwright/eligibility/Unknown")), Jvm.Cond.code ({ cls := "com/example/underwright/underwright/eligibility/Fact", name := "isKnown", desc := "()Z" } : Jvm.MethodName) prog_14_method_7_code (1 : Nat) (Option.some Jvm.ClassFile.FieldType.boolean), Jvm.Cond.code ({ cls := "java/lang/StringUTF16", name := "compress", desc := "([CII)[B" } : Jvm.MethodName) jdk_52_method_16_code (6 : Nat) (Option.some (Jvm.ClassFile.FieldType.array Jvm.ClassFile.FieldType.byte)), Jvm.Cond.code ({ cls := "java/lang/StringUTF16", name := "compress", desc := "([CI[BII)I" } : Jvm.MethodName) jdk_52_method_21_code (7 : Nat) (Option.some Jvm.ClassFile.FieldType.int), Jvm.Cond.code ({ cls := "java/lang/StringUTF16", name := "coderFromArrayLen", desc := "([BI)B" } : Jvm.MethodName) jdk_52_method_15_code (2 : Nat) (Option.some Jvm.ClassFile.FieldType.byte), Jvm.Cond.code ({ cls := "java/lang/Long", name := "valueOf", desc := "(J)Ljava/lang/Long;" } : Jvm.MethodName) jdk_35_method_24_code (3 : Nat) (Option.some (Jvm.ClassFile.FieldType.object "java/lang/Long")), Jvm.Cond.code ({ cls := "java/lang/Integer", name := "valueOf", desc := "(I)Ljava/lang/Integer;" } : Jvm.MethodName) jdk_33_method_22_code (1 : Nat) (Option.some (Jvm.ClassFile.FieldType.object "java/lang/Integer")), Jvm.Cond.code ({ cls := "java/lang/Long", name := "<init>", desc := "(J)V" } : Jvm.MethodName) jdk_35_method_26_code (3 : Nat) (Option.none : Option Jvm.ClassFile.FieldType), Jvm.Cond.code ({ cls := "java/lang/Number", name := "<init>", desc := "()V" } : Jvm.MethodName) jdk_18_method_1_code (1 : Nat) (Option.none : Option Jvm.ClassFile.FieldType), Jvm.Cond.code ({ cls := "java/lang/Integer", name := "<init>", desc := "(I)V" } : Jvm.MethodName) jdk_33_method_23_code (2 : Nat) (Option.none : Option Jvm.ClassFile.FieldType)]
set_option maxRecDepth 65536 in
theorem codes_eq : words1.filter isCode = codes1 := rfl
theorem w_codes : ∀ c ∈ words1.filter isCode, c.before args0 about1 = true := by
  rw [codes_eq]
  intro c hc
  simp only [codes1, List.mem_cons, List.not_mem_nil, or_false] at hc
  rcases hc with rfl | rfl | rfl | rfl | rfl | rfl | rfl | rfl | rfl | rfl | rfl | rfl | rfl | rfl | rfl | rfl | rfl | rfl
  · exact w_c0
  · exact w_c1
  · exact w_c2
  · exact w_c3
  · exact w_c4
  · exact w_c5
  · exact w_c6
  · exact w_c7
  · exact w_c8
  · exact w_c9
  · exact w_c10
  · exact w_c11
  · exact w_c12
  · exact w_c13
  · exact w_c14
  · exact w_c15
  · exact w_c16
  · exact w_c17
set_option maxRecDepth 65536 in
theorem w_t1 : (words1.take 24).all (fun c => isCode c || c.before args0 about1) = true := by decide +kernel
set_option maxRecDepth 65536 in
theorem w_t2 : ((words1.drop 24).take 24).all (fun c => isCode c || c.before args0 about1) = true := by decide +kernel
set_option maxRecDepth 65536 in
theorem w_t3 : (((words1.drop 24).drop 24).take 24).all (fun c => isCode c || c.before args0 about1) = true := by decide +kernel
set_option maxRecDepth 65536 in
theorem w_t4 : ((((words1.drop 24).drop 24).drop 24).take 24).all (fun c => isCode c || c.before args0 about1) = true := by decide +kernel
set_option maxRecDepth 65536 in
theorem w_t5 : ((((words1.drop 24).drop 24).drop 24).drop 24).all (fun c => isCode c || c.before args0 about1) = true := by decide +kernel
theorem w_tables : (allAtoms (Jvm.Cond.code x code maxLocals ret :: tables_1)).before args0 about1 = true := by
  rw [allAtoms_all]
  show words1.all (fun c => c.before args0 about1) = true
  refine all_split ?_ w_codes
  rw [← List.take_append_drop 24 words1, List.all_append, w_t1, ← List.take_append_drop 24 (words1.drop 24), List.all_append, w_t2, ← List.take_append_drop 24 ((words1.drop 24).drop 24), List.all_append, w_t3, ← List.take_append_drop 24 (((words1.drop 24).drop 24).drop 24), List.all_append, w_t4, w_t5]
  rfl
set_option maxRecDepth 65536 in
theorem w_rest : rest_1_c.before args0 about1 = true := by decide +kernel
set_option maxRecDepth 65536 in
theorem w_case : (Jvm.Cond.and given_1 narrow_1).before args0 about1 = true := by decide +kernel
set_option maxRecDepth 65536 in
theorem w_consts : constsHeld consts_1 about1 := Jvm.Lit.constsHeldB_iff.mp (by decide +kernel)
theorem w_applies : (headSpec (Jvm.Cond.code x code maxLocals ret :: tables_1) room_1).applies x e0.platform about1 = true :=
  (Spec.applies_iff w_frames).mpr ⟨w_running, w_runnable, w_alone, w_named, w_hears, w_ripe, w_room, w_tables⟩
theorem atStart : AtStart classFile x code maxLocals ret World_1 tables_1 room_1 Calls_1 rest_1 Pre_1 launch0 p0 e0 about1 theMethod args0 below0 :=
  ⟨lists_1, trivial, launch0.admits_env _ _ _, launch0.least_env, fairChoices_fair.cas, fairChoices_fair.clock, w_frames, w_args, w_heap, w_applies, ⟨w_consts, trivial⟩, w_rest, w_case⟩
end start1
theorem witness_1 : WitnessClaimed_1 := ⟨start1.p0, start1.e0, start1.about1, start1.theMethod, start1.args0, start1.below0, start1.atStart⟩
end Jvm.Pilot.@@N@@
