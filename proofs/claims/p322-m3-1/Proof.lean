import JvmDerived
import JvmDerived.Pilot.@@N@@Statement
import JvmDerived.Pilot.@@N@@Code
set_option linter.unusedVariables false
set_option linter.unusedSimpArgs false
namespace Jvm.RoadKit
open Sem ClassFile Op Lib Jvm.Stand Jvm.Free Jvm.LawKit
section New
variable {p : Program} {l : Launch} {e : Env} {R : Room} {s : State} {m : MethodId} {args : Array Value} {below : List Frame} {meth : Method} {c : Code} {T : State} {locs : List Loc} {cells slots : Nat}
theorem retI (X : Stand p l e R s m args below meth c T locs cells slots) (hx : p.tables.exec = Jvm.exec) {pc : Nat} {Ls : Array Slot} {z : Int32} {rest : List Value} (hret : meth.sig.returnType = some .int) (hd : decode c.code pc = .ok (.ireturn, 1)) {fs : List Frame}
    (hl : ∀ (f : JFrame) (acts : List Action), f.method = m → f.locked = none → f.entered = [] → (doReturn e (T.setTop f) acts (some (.int z))).1 = T.setFrames fs) : Steps p.tables e below (T.setTop (mkF m pc Ls (.int z :: rest))) (T.setFrames fs) := by
  have hm' : T.vm.method? m = some meth := X.method'
  have hn : narrow .int (.int z) = .int z := rfl
  show Steps p.tables e below (T.setTop { method := m, pc := pc, locals := Ls, stack := _ :: rest, locked := none }) _
  jvm_step X.here [X.here.top, hx, hd, hm', hret, hn]
  first | (intro acts; rw [hl _ acts rfl rfl rfl]) | rw [hl _ _ rfl rfl rfl]
  exact Steps.refl _
end New
end Jvm.RoadKit
namespace Jvm.Pilot.@@N@@
open Jvm Jvm.ClassFile Sem Op Lib Jvm.Free Jvm.Stand Jvm.LawKit Jvm.RoadKit Bundle Jvm.Pilot.@@N@@.Jvm.D
/-! plain numbers -/
def own_min (a b : Int64) : Int64 := if b < a then b else a
def own_max (a b : Int64) : Int64 := if a < b then b else a
def own_s1 (x y : Int64) : Int64 := own_min (x &&& (9223372036854775807 : Int64)) (y &&& (9223372036854775807 : Int64))
def own_e1 (x y : Int64) : Int64 := own_max (x &&& (9223372036854775807 : Int64)) (y &&& (9223372036854775807 : Int64))
def own_s (x y : Int64) : Int64 := if own_s1 x y = (9223372036854775807 : Int64) then (9223372036854775806 : Int64) else own_s1 x y
def own_e (x y : Int64) (f : Int32) : Int64 := if f = (0 : Int32) then own_e1 x y else (9223372036854775807 : Int64)
def own_enc (s e s' e' : Int64) : Int32 := if s' < s then 0 else if e < e' then 0 else 1
def own_in (s e t : Int64) : Int32 := if t < s then 0 else if e < t then 0 else 1
def own_fl (x : Int32) : Int32 := if x = (0 : Int32) then 0 else 1
def own_mv (x : Int32) (a b : Int64) : Int64 := if x = (0 : Int32) then a else b
def own_exp (a b : Int32) : Int32 := if a = (0 : Int32) then 0 else if b = (0 : Int32) then 0 else 1
def own_wit (r a b : Int32) : Int32 := if r = (0 : Int32) then 1 else if a = (0 : Int32) then 1 else if b = (0 : Int32) then 0 else 1
theorem own_and (x : Int64) : 0 ≤ (x &&& (9223372036854775807 : Int64)).toInt := by
  have h : (x &&& (9223372036854775807 : Int64)).toBitVec.msb = false := by
    rw [Int64.toBitVec_and, BitVec.msb_and]
    have : (9223372036854775807 : Int64).toBitVec.msb = false := by decide
    rw [this, Bool.and_false]
  show 0 ≤ (x &&& (9223372036854775807 : Int64)).toBitVec.toInt
  rw [BitVec.toInt_eq_msb_cond, h]
  simp
theorem own_top (x : Int64) : x.toInt ≤ 9223372036854775807 := by have := x.toInt_lt; omega
theorem own_mx : (9223372036854775807 : Int64).toInt = 9223372036854775807 := by decide
theorem own_mx1 : (9223372036854775806 : Int64).toInt = 9223372036854775806 := by decide
theorem own_z : (0 : Int64).toInt = 0 := by decide
theorem own_s1_nn (x y : Int64) : 0 ≤ (own_s1 x y).toInt := by
  have h1 := own_and x; have h2 := own_and y
  unfold own_s1 own_min; split <;> assumption
theorem own_se1 (x y : Int64) : (own_s1 x y).toInt ≤ (own_e1 x y).toInt := by
  unfold own_s1 own_e1 own_min own_max
  generalize (x &&& (9223372036854775807 : Int64)) = u
  generalize (y &&& (9223372036854775807 : Int64)) = v
  by_cases h1 : v < u
  · rw [if_pos h1]; rw [Int64.lt_iff_toInt_lt] at h1; split
    · exact Int.le_refl _
    · omega
  · rw [if_neg h1]; rw [Int64.lt_iff_toInt_lt] at h1; split
    · omega
    · exact Int.le_refl _
theorem own_s_nn (x y : Int64) : ¬ (own_s x y < (0 : Int64)) := by
  rw [Int64.lt_iff_toInt_lt, own_z]; have := own_s1_nn x y
  unfold own_s; split
  · rw [own_mx1]; omega
  · omega
theorem own_s_nm (x y : Int64) : ¬ (own_s x y = (9223372036854775807 : Int64)) := by
  unfold own_s; split
  · decide
  · assumption
theorem own_se (x y : Int64) (f : Int32) : ¬ (own_e x y f < own_s x y) := by
  rw [Int64.lt_iff_toInt_lt]; have h := own_se1 x y; have h2 := own_top (own_s1 x y)
  unfold own_e own_s; split <;> split
  · rename_i h3; rw [own_mx1]; rw [h3, own_mx] at h; omega
  · omega
  · rw [own_mx, own_mx1]; omega
  · rw [own_mx]; omega
theorem own_law1 (s e s' e' : Int64) (h : ¬ (e' < s')) : own_enc s e s' e' = own_exp (own_in s e s') (own_in s e e') := by
  rw [Int64.lt_iff_toInt_lt] at h
  unfold own_enc own_exp own_in
  simp only [Int64.lt_iff_toInt_lt]
  by_cases h1 : s'.toInt < s.toInt
  · simp [h1]
  · by_cases h2 : e.toInt < e'.toInt
    · have h3 : ¬ e'.toInt < s.toInt := by omega
      simp [h1, h2, h3]
    · have h3 : ¬ e'.toInt < s.toInt := by omega
      have h4 : ¬ e.toInt < s'.toInt := by omega
      simp [h1, h2, h3, h4]
theorem own_law2 (s e s' e' z : Int64) : ¬ (own_wit (own_enc s e s' e') (own_in s' e' z) (own_in s e z) = (0 : Int32)) := by
  unfold own_wit own_enc own_in
  simp only [Int64.lt_iff_toInt_lt]
  by_cases h1 : s'.toInt < s.toInt
  · simp [h1]
  · by_cases h2 : e.toInt < e'.toInt
    · simp [h1, h2]
    · by_cases h3 : z.toInt < s'.toInt
      · simp [h1, h2, h3]
      · by_cases h4 : e'.toInt < z.toInt
        · simp [h1, h2, h3, h4]
        · have h5 : ¬ z.toInt < s.toInt := by omega
          have h6 : ¬ e.toInt < z.toInt := by omega
          simp [h1, h2, h3, h4, h5, h6]
theorem d5_0 : decode jdk_30_method_1_code 0 = .ok (.aload_n 0, 1) := by decide +kernel
theorem d5_1 : decode jdk_30_method_1_code 1 = .ok (.invokespecial 1, 3) := by decide +kernel
theorem d5_4 : decode jdk_30_method_1_code 4 = .ok (.return_, 1) := by decide +kernel
theorem pn_0 : plainName "java/lang/Record" = true := by first | (simp [plainName, overriddenIn]; done) | decide +kernel
theorem ef_rm5 (m : MethodId) (x0 : Addr) : entryFrame m #[(.ref x0)] 1 = mkF m 0 #[.val (.ref x0)] [] := by first | (simp [entryFrame, mkF, argsToLocals, Value.category]; done) | rfl
def Q_rm5 (Z : State) (a1 : Addr)  (h0 : Heap) (n0 : Nat) (v : Option Value) (h : Heap) (L : List Loc) : Prop := v = none ∧ Fr n0 L ∧ h = h0
set_option maxRecDepth 65536 in
set_option maxHeartbeats 40000000 in
theorem rm5 (l : Launch) (Z : State) (a0 : Array Value) (hw : ∀ d ∈ tables_1, d.before a0 Z = true) (ws : List Jvm.Cond) (a1 : Addr)  (h0 : Heap) (n0 : Nat) (Z0 : n0 ≤ h0.size)  :
    MetFree l (⟨"java/lang/Record", "<init>", "()V"⟩ : MethodName) (head1 (Jvm.Cond.code (⟨"java/lang/Record", "<init>", "()V"⟩ : MethodName) jdk_30_method_1_code 1 none :: ws) ({ frames := 1, cells := 0, slots := 0, locals := 12 } : Room)) (fun a U => a = #[(.ref a1)] ∧ Z.Warmed39 U.vm ∧ U.heap = h0) (fun _ _ _ _ _ => True) (fun _ U o U' => ∃ v L, o = .returned v ∧ Q_rm5 Z a1  h0 n0 v U'.heap L ∧ FrameEnd U o U' L ({ frames := 1, cells := 0, slots := 0, locals := 12 } : Room).cells ({ frames := 1, cells := 0, slots := 0, locals := 12 } : Room).slots) := by
  refine MetFree.of_bodySF (plainFor_of_name pn_0) hisR ?_
  intro p e s m args below meth c s₁ Bd hml0 hP hK
  obtain ⟨rfl, hZ, hh⟩ := hP
  have hx := Bd.exec
  have hby := Bd.bytes
  have hml : c.maxLocals = 1 := hml0
  have hown : s.vm.findClass "java/lang/Record" = some m.cls := findClass_of_methodNamed Bd.named
  have hnm := (name_of_methodNamed Bd.named Bd.method).1
  have X0 : Stand p l e ({ frames := 1, cells := 0, slots := 0, locals := 12 } : Room) s m #[(.ref a1)] below meth c s₁ [] 0 0 := Stand.of_body Bd
  have e0 : s₁.heap = h0 := by rw [← hh, Bd.state]; rfl
  have N0 := Fr.nil n0
  have pre0 : ∀ t, Steps p.tables e below (s₁.setTop (mkF m 0 #[.val (.ref a1)] [])) t → Steps p.tables e below (s₁.setTop (entryFrame m #[(.ref a1)] 1)) t := fun t k => castTop (ef_rm5 m a1) k
  have R0 : ∀ t, Steps p.tables e below (s₁.setTop (mkF m 0 #[.val (.ref a1)] [])) t → Steps p.tables e below (s₁.setTop (mkF m 0 #[.val (.ref a1)] [])) t := fun _ k => k
  have R1 : ∀ t, Steps p.tables e below (s₁.setTop (mkF m 1 #[.val (.ref a1)] [(.ref a1)])) t → Steps p.tables e below (s₁.setTop (mkF m 0 #[.val (.ref a1)] [])) t := by
    intro t k
    refine R0 t ?_
    refine XS.aloadN X0.here hx rfl (hb hby d5_0) rfl rfl ?_
    exact k
  obtain ⟨T2, X2, e2, st2⟩ := initO X0 hx hZ hown (hw _ (List.mem_of_getElem? (i := 23) rfl)) (hw _ (List.mem_of_getElem? (i := 24) rfl)) (hw _ (List.mem_of_getElem? (i := 25) rfl)) e0 (g := (mkF m 1 #[.val (.ref a1)] [(.ref a1)])) rfl (by rw [hml]; rfl) rfl (hb hby d5_1) (by decide) (W := 0) (by show 2 * 0 + _ ≤ _; exact Nat.le_of_eq rfl) (by decide)
  have R3 : ∀ t, Steps p.tables e below (T2.setTop (mkF m 4 #[.val (.ref a1)] [])) t → Steps p.tables e below (s₁.setTop (mkF m 0 #[.val (.ref a1)] [])) t := fun t k => R1 t (st2 _ k)
  obtain ⟨fs, hr, hrun, hended, hW, hsame⟩ := X2.leave (v := none) (fun _ => rfl)
  refine ⟨_, _, pre0 _ (R3 _ (X2.returnOut hx Bd.returns (hb hby d5_4) hr)), hrun, hended, _, _, rfl, ?_, ⟨_, rfl⟩, hW, hsame.mono (by decide) (by decide)⟩
  show Q_rm5 Z a1  h0 n0 _ T2.heap _
  rw [e2]
  exact ⟨rfl, N0, rfl⟩
theorem d2_0 : decode jdk_29_method_70_code 0 = .ok (.lload_n 0, 1) := by decide +kernel
theorem d2_1 : decode jdk_29_method_70_code 1 = .ok (.lload_n 2, 1) := by decide +kernel
theorem d2_2 : decode jdk_29_method_70_code 2 = .ok (.lcmp, 1) := by decide +kernel
theorem d2_3 : decode jdk_29_method_70_code 3 = .ok (.ifCond .gt 7, 3) := by decide +kernel
theorem d2_6 : decode jdk_29_method_70_code 6 = .ok (.lload_n 0, 1) := by decide +kernel
theorem d2_7 : decode jdk_29_method_70_code 7 = .ok (.goto 4, 3) := by decide +kernel
theorem d2_10 : decode jdk_29_method_70_code 10 = .ok (.lload_n 2, 1) := by decide +kernel
theorem d2_11 : decode jdk_29_method_70_code 11 = .ok (.lreturn, 1) := by decide +kernel
theorem pf_rm2 : plainFor (⟨"java/lang/Math", "min", "(JJ)J"⟩ : MethodName) = true := by decide +kernel
theorem ef_rm2 (m : MethodId) (x0 : Int64) (x1 : Int64) : entryFrame m #[(.long x0), (.long x1)] 4 = mkF m 0 #[.val (.long x0), .second, .val (.long x1), .second] [] := by first | (simp [entryFrame, mkF, argsToLocals, Value.category]; done) | rfl
def Q_rm2 (Z : State) (q1 : Int64) (q2 : Int64)  (h0 : Heap) (n0 : Nat) (v : Option Value) (h : Heap) (L : List Loc) : Prop := v = some (.long (own_min q1 q2)) ∧ Fr n0 L ∧ h = h0
set_option maxRecDepth 65536 in
set_option maxHeartbeats 40000000 in
theorem rm2 (l : Launch) (Z : State) (a0 : Array Value) (hw : ∀ d ∈ tables_1, d.before a0 Z = true) (ws : List Jvm.Cond) (q1 : Int64) (q2 : Int64)  (h0 : Heap) (n0 : Nat) (Z0 : n0 ≤ h0.size)  :
    MetFree l (⟨"java/lang/Math", "min", "(JJ)J"⟩ : MethodName) (head1 (Jvm.Cond.code (⟨"java/lang/Math", "min", "(JJ)J"⟩ : MethodName) jdk_29_method_70_code 4 (some .long) :: ws) ({ frames := 0, cells := 0, slots := 0, locals := 0 } : Room)) (fun a U => a = #[(.long q1), (.long q2)] ∧ Z.Warmed39 U.vm ∧ U.heap = h0) (fun _ _ _ _ _ => True) (fun _ U o U' => ∃ v L, o = .returned v ∧ Q_rm2 Z q1 q2  h0 n0 v U'.heap L ∧ FrameEnd U o U' L ({ frames := 0, cells := 0, slots := 0, locals := 0 } : Room).cells ({ frames := 0, cells := 0, slots := 0, locals := 0 } : Room).slots) := by
  refine MetFree.of_bodySF pf_rm2 hisR ?_
  intro p e s m args below meth c s₁ Bd hml0 hP hK
  obtain ⟨rfl, hZ, hh⟩ := hP
  have hx := Bd.exec
  have hby := Bd.bytes
  have hml : c.maxLocals = 4 := hml0
  have hown : s.vm.findClass "java/lang/Math" = some m.cls := findClass_of_methodNamed Bd.named
  have hnm := (name_of_methodNamed Bd.named Bd.method).1
  have X0 : Stand p l e ({ frames := 0, cells := 0, slots := 0, locals := 0 } : Room) s m #[(.long q1), (.long q2)] below meth c s₁ [] 0 0 := Stand.of_body Bd
  have e0 : s₁.heap = h0 := by rw [← hh, Bd.state]; rfl
  have N0 := Fr.nil n0
  have pre0 : ∀ t, Steps p.tables e below (s₁.setTop (mkF m 0 #[.val (.long q1), .second, .val (.long q2), .second] [])) t → Steps p.tables e below (s₁.setTop (entryFrame m #[(.long q1), (.long q2)] 4)) t := fun t k => castTop (ef_rm2 m q1 q2) k
  have R0 : ∀ t, Steps p.tables e below (s₁.setTop (mkF m 0 #[.val (.long q1), .second, .val (.long q2), .second] [])) t → Steps p.tables e below (s₁.setTop (mkF m 0 #[.val (.long q1), .second, .val (.long q2), .second] [])) t := fun _ k => k
  have R4 : ∀ t, Steps p.tables e below (s₁.setTop (mkF m 3 #[.val (.long q1), .second, .val (.long q2), .second] [(.int (lcmpW q1 q2))])) t → Steps p.tables e below (s₁.setTop (mkF m 0 #[.val (.long q1), .second, .val (.long q2), .second] [])) t := by
    intro t k
    refine R0 t ?_
    refine XS.lloadN X0.here hx rfl (hb hby d2_0) rfl ?_
    refine XS.lloadN X0.here hx rfl (hb hby d2_1) rfl ?_
    refine XS.lcmp X0.here hx rfl (hb hby d2_2) rfl ?_
    exact k
  by_cases hc : q2 < q1
  · have R5 : ∀ t, Steps p.tables e below (s₁.setTop (mkF m 10 #[.val (.long q1), .second, .val (.long q2), .second] [])) t → Steps p.tables e below (s₁.setTop (mkF m 0 #[.val (.long q1), .second, .val (.long q2), .second] [])) t := by
      intro t k
      refine R4 t ?_
      refine XS.ifYes X0.here hx rfl (pc0 := 3) (pc' := 10) rfl (hb hby d2_3) rfl ((if0 _ _).trans (tlt ((lw_gt _ _).mpr hc)).2.2.1) (by decide) (by decide) ?_
      exact k
    have R6 : ∀ t, Steps p.tables e below (s₁.setTop (mkF m 11 #[.val (.long q1), .second, .val (.long q2), .second] [(.long q2)])) t → Steps p.tables e below (s₁.setTop (mkF m 0 #[.val (.long q1), .second, .val (.long q2), .second] [])) t := by
      intro t k
      refine R5 t ?_
      refine XS.lloadN X0.here hx rfl (hb hby d2_10) rfl ?_
      exact k
    obtain ⟨fs, hr, hrun, hended, hW, hsame⟩ := X0.leave (v := some (.long q2)) (fun h => by rw [Bd.returns] at h; cases h)
    refine ⟨_, _, pre0 _ (R6 _ (retOut X0 hx (t := .long) Bd.returns rfl (Or.inr (Or.inl ⟨rfl, rfl, _, rfl⟩)) (hb hby d2_11) hr)), hrun, hended, _, _, rfl, ?_, ⟨_, rfl⟩, hW, hsame.mono (by decide) (by decide)⟩
    show Q_rm2 Z q1 q2  h0 n0 _ s₁.heap _
    rw [e0]
    exact ⟨by simp [own_min, hc], N0, rfl⟩
  · have R7 : ∀ t, Steps p.tables e below (s₁.setTop (mkF m 6 #[.val (.long q1), .second, .val (.long q2), .second] [])) t → Steps p.tables e below (s₁.setTop (mkF m 0 #[.val (.long q1), .second, .val (.long q2), .second] [])) t := by
      intro t k
      refine R4 t ?_
      refine XS.ifNo X0.here hx rfl (hb hby d2_3) rfl ((if0 _ _).trans (flt (mt (lw_gt _ _).mp hc)).2.2.1) ?_
      exact k
    have R8 : ∀ t, Steps p.tables e below (s₁.setTop (mkF m 11 #[.val (.long q1), .second, .val (.long q2), .second] [(.long q1)])) t → Steps p.tables e below (s₁.setTop (mkF m 0 #[.val (.long q1), .second, .val (.long q2), .second] [])) t := by
      intro t k
      refine R7 t ?_
      refine XS.lloadN X0.here hx rfl (hb hby d2_6) rfl ?_
      refine XS.goto X0.here hx rfl (pc0 := 7) (pc' := 11) rfl (hb hby d2_7) (by decide) (by decide) ?_
      exact k
    obtain ⟨fs, hr, hrun, hended, hW, hsame⟩ := X0.leave (v := some (.long q1)) (fun h => by rw [Bd.returns] at h; cases h)
    refine ⟨_, _, pre0 _ (R8 _ (retOut X0 hx (t := .long) Bd.returns rfl (Or.inr (Or.inl ⟨rfl, rfl, _, rfl⟩)) (hb hby d2_11) hr)), hrun, hended, _, _, rfl, ?_, ⟨_, rfl⟩, hW, hsame.mono (by decide) (by decide)⟩
    show Q_rm2 Z q1 q2  h0 n0 _ s₁.heap _
    rw [e0]
    exact ⟨by simp [own_min, hc], N0, rfl⟩
theorem d3_0 : decode jdk_29_method_66_code 0 = .ok (.lload_n 0, 1) := by decide +kernel
theorem d3_1 : decode jdk_29_method_66_code 1 = .ok (.lload_n 2, 1) := by decide +kernel
theorem d3_2 : decode jdk_29_method_66_code 2 = .ok (.lcmp, 1) := by decide +kernel
theorem d3_3 : decode jdk_29_method_66_code 3 = .ok (.ifCond .lt 7, 3) := by decide +kernel
theorem d3_6 : decode jdk_29_method_66_code 6 = .ok (.lload_n 0, 1) := by decide +kernel
theorem d3_7 : decode jdk_29_method_66_code 7 = .ok (.goto 4, 3) := by decide +kernel
theorem d3_10 : decode jdk_29_method_66_code 10 = .ok (.lload_n 2, 1) := by decide +kernel
theorem d3_11 : decode jdk_29_method_66_code 11 = .ok (.lreturn, 1) := by decide +kernel
theorem pf_rm3 : plainFor (⟨"java/lang/Math", "max", "(JJ)J"⟩ : MethodName) = true := by decide +kernel
theorem ef_rm3 (m : MethodId) (x0 : Int64) (x1 : Int64) : entryFrame m #[(.long x0), (.long x1)] 4 = mkF m 0 #[.val (.long x0), .second, .val (.long x1), .second] [] := by first | (simp [entryFrame, mkF, argsToLocals, Value.category]; done) | rfl
def Q_rm3 (Z : State) (q1 : Int64) (q2 : Int64)  (h0 : Heap) (n0 : Nat) (v : Option Value) (h : Heap) (L : List Loc) : Prop := v = some (.long (own_max q1 q2)) ∧ Fr n0 L ∧ h = h0
set_option maxRecDepth 65536 in
set_option maxHeartbeats 40000000 in
theorem rm3 (l : Launch) (Z : State) (a0 : Array Value) (hw : ∀ d ∈ tables_1, d.before a0 Z = true) (ws : List Jvm.Cond) (q1 : Int64) (q2 : Int64)  (h0 : Heap) (n0 : Nat) (Z0 : n0 ≤ h0.size)  :
    MetFree l (⟨"java/lang/Math", "max", "(JJ)J"⟩ : MethodName) (head1 (Jvm.Cond.code (⟨"java/lang/Math", "max", "(JJ)J"⟩ : MethodName) jdk_29_method_66_code 4 (some .long) :: ws) ({ frames := 0, cells := 0, slots := 0, locals := 0 } : Room)) (fun a U => a = #[(.long q1), (.long q2)] ∧ Z.Warmed39 U.vm ∧ U.heap = h0) (fun _ _ _ _ _ => True) (fun _ U o U' => ∃ v L, o = .returned v ∧ Q_rm3 Z q1 q2  h0 n0 v U'.heap L ∧ FrameEnd U o U' L ({ frames := 0, cells := 0, slots := 0, locals := 0 } : Room).cells ({ frames := 0, cells := 0, slots := 0, locals := 0 } : Room).slots) := by
  refine MetFree.of_bodySF pf_rm3 hisR ?_
  intro p e s m args below meth c s₁ Bd hml0 hP hK
  obtain ⟨rfl, hZ, hh⟩ := hP
  have hx := Bd.exec
  have hby := Bd.bytes
  have hml : c.maxLocals = 4 := hml0
  have hown : s.vm.findClass "java/lang/Math" = some m.cls := findClass_of_methodNamed Bd.named
  have hnm := (name_of_methodNamed Bd.named Bd.method).1
  have X0 : Stand p l e ({ frames := 0, cells := 0, slots := 0, locals := 0 } : Room) s m #[(.long q1), (.long q2)] below meth c s₁ [] 0 0 := Stand.of_body Bd
  have e0 : s₁.heap = h0 := by rw [← hh, Bd.state]; rfl
  have N0 := Fr.nil n0
  have pre0 : ∀ t, Steps p.tables e below (s₁.setTop (mkF m 0 #[.val (.long q1), .second, .val (.long q2), .second] [])) t → Steps p.tables e below (s₁.setTop (entryFrame m #[(.long q1), (.long q2)] 4)) t := fun t k => castTop (ef_rm3 m q1 q2) k
  have R0 : ∀ t, Steps p.tables e below (s₁.setTop (mkF m 0 #[.val (.long q1), .second, .val (.long q2), .second] [])) t → Steps p.tables e below (s₁.setTop (mkF m 0 #[.val (.long q1), .second, .val (.long q2), .second] [])) t := fun _ k => k
  have R9 : ∀ t, Steps p.tables e below (s₁.setTop (mkF m 3 #[.val (.long q1), .second, .val (.long q2), .second] [(.int (lcmpW q1 q2))])) t → Steps p.tables e below (s₁.setTop (mkF m 0 #[.val (.long q1), .second, .val (.long q2), .second] [])) t := by
    intro t k
    refine R0 t ?_
    refine XS.lloadN X0.here hx rfl (hb hby d3_0) rfl ?_
    refine XS.lloadN X0.here hx rfl (hb hby d3_1) rfl ?_
    refine XS.lcmp X0.here hx rfl (hb hby d3_2) rfl ?_
    exact k
  by_cases hc : q1 < q2
  · have R10 : ∀ t, Steps p.tables e below (s₁.setTop (mkF m 10 #[.val (.long q1), .second, .val (.long q2), .second] [])) t → Steps p.tables e below (s₁.setTop (mkF m 0 #[.val (.long q1), .second, .val (.long q2), .second] [])) t := by
      intro t k
      refine R9 t ?_
      refine XS.ifYes X0.here hx rfl (pc0 := 3) (pc' := 10) rfl (hb hby d3_3) rfl ((if0 _ _).trans (tlt ((lw_lt _ _).mpr hc)).1) (by decide) (by decide) ?_
      exact k
    have R11 : ∀ t, Steps p.tables e below (s₁.setTop (mkF m 11 #[.val (.long q1), .second, .val (.long q2), .second] [(.long q2)])) t → Steps p.tables e below (s₁.setTop (mkF m 0 #[.val (.long q1), .second, .val (.long q2), .second] [])) t := by
      intro t k
      refine R10 t ?_
      refine XS.lloadN X0.here hx rfl (hb hby d3_10) rfl ?_
      exact k
    obtain ⟨fs, hr, hrun, hended, hW, hsame⟩ := X0.leave (v := some (.long q2)) (fun h => by rw [Bd.returns] at h; cases h)
    refine ⟨_, _, pre0 _ (R11 _ (retOut X0 hx (t := .long) Bd.returns rfl (Or.inr (Or.inl ⟨rfl, rfl, _, rfl⟩)) (hb hby d3_11) hr)), hrun, hended, _, _, rfl, ?_, ⟨_, rfl⟩, hW, hsame.mono (by decide) (by decide)⟩
    show Q_rm3 Z q1 q2  h0 n0 _ s₁.heap _
    rw [e0]
    exact ⟨by simp [own_max, hc], N0, rfl⟩
  · have R12 : ∀ t, Steps p.tables e below (s₁.setTop (mkF m 6 #[.val (.long q1), .second, .val (.long q2), .second] [])) t → Steps p.tables e below (s₁.setTop (mkF m 0 #[.val (.long q1), .second, .val (.long q2), .second] [])) t := by
      intro t k
      refine R9 t ?_
      refine XS.ifNo X0.here hx rfl (hb hby d3_3) rfl ((if0 _ _).trans (flt (mt (lw_lt _ _).mp hc)).1) ?_
      exact k
    have R13 : ∀ t, Steps p.tables e below (s₁.setTop (mkF m 11 #[.val (.long q1), .second, .val (.long q2), .second] [(.long q1)])) t → Steps p.tables e below (s₁.setTop (mkF m 0 #[.val (.long q1), .second, .val (.long q2), .second] [])) t := by
      intro t k
      refine R12 t ?_
      refine XS.lloadN X0.here hx rfl (hb hby d3_6) rfl ?_
      refine XS.goto X0.here hx rfl (pc0 := 7) (pc' := 11) rfl (hb hby d3_7) (by decide) (by decide) ?_
      exact k
    obtain ⟨fs, hr, hrun, hended, hW, hsame⟩ := X0.leave (v := some (.long q1)) (fun h => by rw [Bd.returns] at h; cases h)
    refine ⟨_, _, pre0 _ (R13 _ (retOut X0 hx (t := .long) Bd.returns rfl (Or.inr (Or.inl ⟨rfl, rfl, _, rfl⟩)) (hb hby d3_11) hr)), hrun, hended, _, _, rfl, ?_, ⟨_, rfl⟩, hW, hsame.mono (by decide) (by decide)⟩
    show Q_rm3 Z q1 q2  h0 n0 _ s₁.heap _
    rw [e0]
    exact ⟨by simp [own_max, hc], N0, rfl⟩
theorem d4_0 : decode prog_46_method_1_code 0 = .ok (.aload_n 0, 1) := by decide +kernel
theorem d4_1 : decode prog_46_method_1_code 1 = .ok (.invokespecial 3, 3) := by decide +kernel
theorem d4_4 : decode prog_46_method_1_code 4 = .ok (.lload_n 1, 1) := by decide +kernel
theorem d4_5 : decode prog_46_method_1_code 5 = .ok (.lconst 0, 1) := by decide +kernel
theorem d4_6 : decode prog_46_method_1_code 6 = .ok (.lcmp, 1) := by decide +kernel
theorem d4_7 : decode prog_46_method_1_code 7 = .ok (.ifCond .lt 11, 3) := by decide +kernel
theorem d4_10 : decode prog_46_method_1_code 10 = .ok (.lload_n 1, 1) := by decide +kernel
theorem d4_11 : decode prog_46_method_1_code 11 = .ok (.ldc2_w 11, 3) := by decide +kernel
theorem d4_14 : decode prog_46_method_1_code 14 = .ok (.lcmp, 1) := by decide +kernel
theorem d4_15 : decode prog_46_method_1_code 15 = .ok (.ifCond .ne 17, 3) := by decide +kernel
theorem d4_32 : decode prog_46_method_1_code 32 = .ok (.lload_n 3, 1) := by decide +kernel
theorem d4_33 : decode prog_46_method_1_code 33 = .ok (.lload_n 1, 1) := by decide +kernel
theorem d4_34 : decode prog_46_method_1_code 34 = .ok (.lcmp, 1) := by decide +kernel
theorem d4_35 : decode prog_46_method_1_code 35 = .ok (.ifCond .ge 18, 3) := by decide +kernel
theorem d4_53 : decode prog_46_method_1_code 53 = .ok (.aload_n 0, 1) := by decide +kernel
theorem d4_54 : decode prog_46_method_1_code 54 = .ok (.lload_n 1, 1) := by decide +kernel
theorem d4_55 : decode prog_46_method_1_code 55 = .ok (.putfield 25, 3) := by decide +kernel
theorem d4_58 : decode prog_46_method_1_code 58 = .ok (.aload_n 0, 1) := by decide +kernel
theorem d4_59 : decode prog_46_method_1_code 59 = .ok (.lload_n 3, 1) := by decide +kernel
theorem d4_60 : decode prog_46_method_1_code 60 = .ok (.putfield 29, 3) := by decide +kernel
theorem d4_63 : decode prog_46_method_1_code 63 = .ok (.return_, 1) := by decide +kernel
theorem pn_1 : plainName "com/example/varese/varese/Interval" = true := by first | (simp [plainName, overriddenIn]; done) | decide +kernel
theorem pd_0 : parseMethodDescriptor "()V" = some ⟨[], none⟩ := by decide +kernel
theorem ef_rm4 (m : MethodId) (x0 : Addr) (x1 : Int64) (x2 : Int64) : entryFrame m #[(.ref x0), (.long x1), (.long x2)] 5 = mkF m 0 #[.val (.ref x0), .val (.long x1), .second, .val (.long x2), .second] [] := by first | (simp [entryFrame, mkF, argsToLocals, Value.category]; done) | rfl
def Q_rm4 (Z : State) (a1 : Addr) (q1 : Int64) (q2 : Int64) (u1 : Value) (u2 : Value) (h0 : Heap) (n0 : Nat) (v : Option Value) (h : Heap) (L : List Loc) : Prop := v = none ∧ Fr n0 L ∧ Keep h0 h [a1] ∧ Fld Z h a1 "com/example/varese/varese/Interval" "start" "J" (.long q1) ∧ Fld Z h a1 "com/example/varese/varese/Interval" "end" "J" (.long q2)
set_option maxRecDepth 65536 in
set_option maxHeartbeats 40000000 in
theorem rm4 (l : Launch) (Z : State) (a0 : Array Value) (hw : ∀ d ∈ tables_1, d.before a0 Z = true) (ws : List Jvm.Cond) (a1 : Addr) (q1 : Int64) (q2 : Int64) (u1 : Value) (u2 : Value) (h0 : Heap) (n0 : Nat) (Z0 : n0 ≤ h0.size) (E_0 : Exa Z h0 a1 "com/example/varese/varese/Interval") (F_00 : Fld Z h0 a1 "com/example/varese/varese/Interval" "start" "J" u1) (F_01 : Fld Z h0 a1 "com/example/varese/varese/Interval" "end" "J" u2) (n_a1 : n0 ≤ a1) (hp1 : ¬ (q1 < (0 : Int64))) (hp2 : ¬ (q1 = (9223372036854775807 : Int64))) (hp3 : ¬ (q2 < q1)) :
    MetFree l (⟨"com/example/varese/varese/Interval", "<init>", "(JJ)V"⟩ : MethodName) (head1 (Jvm.Cond.code (⟨"com/example/varese/varese/Interval", "<init>", "(JJ)V"⟩ : MethodName) prog_46_method_1_code 5 none :: ws) ({ frames := 2, cells := 0, slots := 0, locals := 24 } : Room)) (fun a U => a = #[(.ref a1), (.long q1), (.long q2)] ∧ Z.Warmed39 U.vm ∧ U.heap = h0) (fun _ _ _ _ _ => True) (fun _ U o U' => ∃ v L, o = .returned v ∧ Q_rm4 Z a1 q1 q2 u1 u2 h0 n0 v U'.heap L ∧ FrameEnd U o U' L ({ frames := 2, cells := 0, slots := 0, locals := 24 } : Room).cells ({ frames := 2, cells := 0, slots := 0, locals := 24 } : Room).slots) := by
  refine MetFree.of_bodySF (plainFor_of_name pn_1) hisR ?_
  intro p e s m args below meth c s₁ Bd hml0 hP hK
  obtain ⟨rfl, hZ, hh⟩ := hP
  have hx := Bd.exec
  have hby := Bd.bytes
  have hml : c.maxLocals = 5 := hml0
  have hown : s.vm.findClass "com/example/varese/varese/Interval" = some m.cls := findClass_of_methodNamed Bd.named
  have hnm := (name_of_methodNamed Bd.named Bd.method).1
  have X0 : Stand p l e ({ frames := 2, cells := 0, slots := 0, locals := 24 } : Room) s m #[(.ref a1), (.long q1), (.long q2)] below meth c s₁ [] 0 0 := Stand.of_body Bd
  have e0 : s₁.heap = h0 := by rw [← hh, Bd.state]; rfl
  have N0 := Fr.nil n0
  have pre0 : ∀ t, Steps p.tables e below (s₁.setTop (mkF m 0 #[.val (.ref a1), .val (.long q1), .second, .val (.long q2), .second] [])) t → Steps p.tables e below (s₁.setTop (entryFrame m #[(.ref a1), (.long q1), (.long q2)] 5)) t := fun t k => castTop (ef_rm4 m a1 q1 q2) k
  have R0 : ∀ t, Steps p.tables e below (s₁.setTop (mkF m 0 #[.val (.ref a1), .val (.long q1), .second, .val (.long q2), .second] [])) t → Steps p.tables e below (s₁.setTop (mkF m 0 #[.val (.ref a1), .val (.long q1), .second, .val (.long q2), .second] [])) t := fun _ k => k
  have R14 : ∀ t, Steps p.tables e below (s₁.setTop (mkF m 1 #[.val (.ref a1), .val (.long q1), .second, .val (.long q2), .second] [(.ref a1)])) t → Steps p.tables e below (s₁.setTop (mkF m 0 #[.val (.ref a1), .val (.long q1), .second, .val (.long q2), .second] [])) t := by
    intro t k
    refine R0 t ?_
    refine XS.aloadN X0.here hx rfl (hb hby d4_0) rfl rfl ?_
    exact k
  obtain ⟨_, _, ⟨T15, L15, k15, n15⟩, -, X15, ⟨Lc15, hQ15, l15, y15, z15⟩, st15⟩ := X0.specialBack hx (y := (⟨"java/lang/Record", "<init>", "()V"⟩ : MethodName)) rfl hown (mvT hZ (hw _ (List.mem_of_getElem? (i := 18) rfl))) (mvT hZ (hw _ (List.mem_of_getElem? (i := 19) rfl))) (mvT hZ (hw _ (List.mem_of_getElem? (i := 22) rfl))) (by decide) (backOf (W := 0) (rm5 l Z a0 hw [] a1  h0 n0 Z0 ) hZ (hw _ (List.mem_of_getElem? (i := 22) rfl)) (hw _ (List.mem_of_getElem? (i := 21) rfl)) (by decide) (by decide)) (g := (mkF m 1 #[.val (.ref a1), .val (.long q1), .second, .val (.long q2), .second] [(.ref a1)])) rfl (by rw [hml]; rfl) (Steps.refl _) (a := a1) (argsL := []) (rest := []) (lenOf pd_0 rfl) rfl (by show 2 * 0 + _ ≤ _; exact Nat.le_of_eq rfl) (hb hby d4_1) (fun _ _ => ⟨rfl, e0, (by decide : 0 + 0 ≤ _), (by decide : 0 + 0 ≤ _)⟩)
  dsimp only [Pt.U, Pt.locs, Pt.cells, Pt.slots] at X15 l15 y15 z15 st15 hQ15
  subst l15 y15 z15
  obtain ⟨rfl, M15, e15⟩ := hQ15
  have N15 := Fr.app N0 M15
  have R16 : ∀ t, Steps p.tables e below (T15.setTop (mkF m 4 #[.val (.ref a1), .val (.long q1), .second, .val (.long q2), .second] [])) t → Steps p.tables e below (s₁.setTop (mkF m 0 #[.val (.ref a1), .val (.long q1), .second, .val (.long q2), .second] [])) t := fun t k => R14 t (st15.trans k)
  have R17 : ∀ t, Steps p.tables e below (T15.setTop (mkF m 7 #[.val (.ref a1), .val (.long q1), .second, .val (.long q2), .second] [(.int (lcmpW q1 (0 : Int64)))])) t → Steps p.tables e below (s₁.setTop (mkF m 0 #[.val (.ref a1), .val (.long q1), .second, .val (.long q2), .second] [])) t := by
    intro t k
    refine R16 t ?_
    refine XS.lloadN X15.here hx rfl (hb hby d4_4) rfl ?_
    refine XS.lconst X15.here hx rfl (hb hby d4_5) ?_
    refine XS.lcmp X15.here hx rfl (hb hby d4_6) rfl ?_
    exact k
  have R18 : ∀ t, Steps p.tables e below (T15.setTop (mkF m 10 #[.val (.ref a1), .val (.long q1), .second, .val (.long q2), .second] [])) t → Steps p.tables e below (s₁.setTop (mkF m 0 #[.val (.ref a1), .val (.long q1), .second, .val (.long q2), .second] [])) t := by
    intro t k
    refine R17 t ?_
    refine XS.ifNo X15.here hx rfl (hb hby d4_7) rfl ((if0 _ _).trans (flt (mt (lw_lt _ _).mp hp1)).1) ?_
    exact k
  have R19 : ∀ t, Steps p.tables e below (T15.setTop (mkF m 15 #[.val (.ref a1), .val (.long q1), .second, .val (.long q2), .second] [(.int (lcmpW q1 (9223372036854775807 : Int64)))])) t → Steps p.tables e below (s₁.setTop (mkF m 0 #[.val (.ref a1), .val (.long q1), .second, .val (.long q2), .second] [])) t := by
    intro t k
    refine R18 t ?_
    refine XS.lloadN X15.here hx rfl (hb hby d4_10) rfl ?_
    refine X15.ldc2Long hx hown (mvT hZ (hw _ (List.mem_of_getElem? (i := 26) rfl))) (g := (mkF m 11 #[.val (.ref a1), .val (.long q1), .second, .val (.long q2), .second] [(.long q1)])) rfl (hb hby d4_11) _ ?_
    refine XS.lcmp X15.here hx rfl (hb hby d4_14) rfl ?_
    exact k
  have R20 : ∀ t, Steps p.tables e below (T15.setTop (mkF m 32 #[.val (.ref a1), .val (.long q1), .second, .val (.long q2), .second] [])) t → Steps p.tables e below (s₁.setTop (mkF m 0 #[.val (.ref a1), .val (.long q1), .second, .val (.long q2), .second] [])) t := by
    intro t k
    refine R19 t ?_
    refine XS.ifYes X15.here hx rfl (pc0 := 15) (pc' := 32) rfl (hb hby d4_15) rfl ((if0 _ _).trans (feq (mt (lw_eq _ _).mp hp2)).2) (by decide) (by decide) ?_
    exact k
  have R21 : ∀ t, Steps p.tables e below (T15.setTop (mkF m 35 #[.val (.ref a1), .val (.long q1), .second, .val (.long q2), .second] [(.int (lcmpW q2 q1))])) t → Steps p.tables e below (s₁.setTop (mkF m 0 #[.val (.ref a1), .val (.long q1), .second, .val (.long q2), .second] [])) t := by
    intro t k
    refine R20 t ?_
    refine XS.lloadN X15.here hx rfl (hb hby d4_32) rfl ?_
    refine XS.lloadN X15.here hx rfl (hb hby d4_33) rfl ?_
    refine XS.lcmp X15.here hx rfl (hb hby d4_34) rfl ?_
    exact k
  have R22 : ∀ t, Steps p.tables e below (T15.setTop (mkF m 53 #[.val (.ref a1), .val (.long q1), .second, .val (.long q2), .second] [])) t → Steps p.tables e below (s₁.setTop (mkF m 0 #[.val (.ref a1), .val (.long q1), .second, .val (.long q2), .second] [])) t := by
    intro t k
    refine R21 t ?_
    refine XS.ifYes X15.here hx rfl (pc0 := 35) (pc' := 53) rfl (hb hby d4_35) rfl ((if0 _ _).trans (flt (mt (lw_lt _ _).mp hp3)).2.1) (by decide) (by decide) ?_
    exact k
  have R23 : ∀ t, Steps p.tables e below (T15.setTop (mkF m 55 #[.val (.ref a1), .val (.long q1), .second, .val (.long q2), .second] [(.long q1), (.ref a1)])) t → Steps p.tables e below (s₁.setTop (mkF m 0 #[.val (.ref a1), .val (.long q1), .second, .val (.long q2), .second] [])) t := by
    intro t k
    refine R22 t ?_
    refine XS.aloadN X15.here hx rfl (hb hby d4_53) rfl rfl ?_
    refine XS.lloadN X15.here hx rfl (hb hby d4_54) rfl ?_
    exact k
  obtain ⟨T24, h24, X24, e24, W24, st24⟩ := putF X15 hx hZ hown (host := "") (Or.inl (hw _ (List.mem_of_getElem? (i := 27) rfl))) Via.refl e15 F_00 E_0 (Or.inr ⟨(hw _ (List.mem_of_getElem? (i := 28) rfl)), rfl, hnm⟩) (hw _ (List.mem_of_getElem? (i := 13) rfl)) (ty := .long) (by decide) rfl rfl (g := (mkF m 55 #[.val (.ref a1), .val (.long q1), .second, .val (.long q2), .second] [(.long q1), (.ref a1)])) rfl rfl (hb hby d4_55)
  have N24 := Fr.snoc X24 N15 n_a1
  have Z24 : n0 ≤ h24.size := Nat.le_trans Z0 (Keep.of_wr W24).1
  have K24 : Keep h0 h24 [a1] := (Keep.refl h0 [a1]).wr W24 (Or.inl (List.mem_of_getElem? (i := 0) rfl))
  have E_25 : Exa Z h24 a1 "com/example/varese/varese/Interval" := E_0.wr W24
  have F_26 : Fld Z h24 a1 "com/example/varese/varese/Interval" "start" "J" (.long q1) := F_00.same W24
  have F_27 : Fld Z h24 a1 "com/example/varese/varese/Interval" "end" "J" u2 := F_01.other W24 (Or.inr (slot_ne (Or.inr (hw _ (List.mem_of_getElem? (i := 30) rfl))) (Or.inr (hw _ (List.mem_of_getElem? (i := 28) rfl))) (by decide) (t := .long) (t' := .long) (by decide) (by decide)))
  have R28 : ∀ t, Steps p.tables e below (T24.setTop (mkF m 58 #[.val (.ref a1), .val (.long q1), .second, .val (.long q2), .second] [])) t → Steps p.tables e below (s₁.setTop (mkF m 0 #[.val (.ref a1), .val (.long q1), .second, .val (.long q2), .second] [])) t := fun t k => R23 t (st24 _ k)
  have R29 : ∀ t, Steps p.tables e below (T24.setTop (mkF m 60 #[.val (.ref a1), .val (.long q1), .second, .val (.long q2), .second] [(.long q2), (.ref a1)])) t → Steps p.tables e below (s₁.setTop (mkF m 0 #[.val (.ref a1), .val (.long q1), .second, .val (.long q2), .second] [])) t := by
    intro t k
    refine R28 t ?_
    refine XS.aloadN X24.here hx rfl (hb hby d4_58) rfl rfl ?_
    refine XS.lloadN X24.here hx rfl (hb hby d4_59) rfl ?_
    exact k
  obtain ⟨T30, h30, X30, e30, W30, st30⟩ := putF X24 hx hZ hown (host := "") (Or.inl (hw _ (List.mem_of_getElem? (i := 29) rfl))) Via.refl e24 F_27 E_25 (Or.inr ⟨(hw _ (List.mem_of_getElem? (i := 30) rfl)), rfl, hnm⟩) (hw _ (List.mem_of_getElem? (i := 13) rfl)) (ty := .long) (by decide) rfl rfl (g := (mkF m 60 #[.val (.ref a1), .val (.long q1), .second, .val (.long q2), .second] [(.long q2), (.ref a1)])) rfl rfl (hb hby d4_60)
  have N30 := Fr.snoc X30 N24 n_a1
  have Z30 : n0 ≤ h30.size := Nat.le_trans Z24 (Keep.of_wr W30).1
  have K30 : Keep h0 h30 [a1] := K24.wr W30 (Or.inl (List.mem_of_getElem? (i := 0) rfl))
  have E_31 : Exa Z h30 a1 "com/example/varese/varese/Interval" := E_25.wr W30
  have F_32 : Fld Z h30 a1 "com/example/varese/varese/Interval" "start" "J" (.long q1) := F_26.other W30 (Or.inr (slot_ne (Or.inr (hw _ (List.mem_of_getElem? (i := 28) rfl))) (Or.inr (hw _ (List.mem_of_getElem? (i := 30) rfl))) (by decide) (t := .long) (t' := .long) (by decide) (by decide)))
  have F_33 : Fld Z h30 a1 "com/example/varese/varese/Interval" "end" "J" (.long q2) := F_27.same W30
  have R34 : ∀ t, Steps p.tables e below (T30.setTop (mkF m 63 #[.val (.ref a1), .val (.long q1), .second, .val (.long q2), .second] [])) t → Steps p.tables e below (s₁.setTop (mkF m 0 #[.val (.ref a1), .val (.long q1), .second, .val (.long q2), .second] [])) t := fun t k => R29 t (st30 _ k)
  obtain ⟨fs, hr, hrun, hended, hW, hsame⟩ := X30.leave (v := none) (fun _ => rfl)
  refine ⟨_, _, pre0 _ (R34 _ (X30.returnOut hx Bd.returns (hb hby d4_63) hr)), hrun, hended, _, _, rfl, ?_, ⟨_, rfl⟩, hW, hsame.mono (by decide) (by decide)⟩
  show Q_rm4 Z a1 q1 q2 u1 u2 h0 n0 _ T30.heap _
  rw [e30]
  exact ⟨rfl, N30, K30, F_32, F_33⟩
theorem d7_0 : decode prog_46_method_12_code 0 = .ok (.aload_n 0, 1) := by decide +kernel
theorem d7_1 : decode prog_46_method_12_code 1 = .ok (.getfield 25, 3) := by decide +kernel
theorem d7_4 : decode prog_46_method_12_code 4 = .ok (.lreturn, 1) := by decide +kernel
theorem ef_rm7 (m : MethodId) (x0 : Addr) : entryFrame m #[(.ref x0)] 1 = mkF m 0 #[.val (.ref x0)] [] := by first | (simp [entryFrame, mkF, argsToLocals, Value.category]; done) | rfl
def Q_rm7 (Z : State) (a1 : Addr) (w1 : Int64) (h0 : Heap) (n0 : Nat) (v : Option Value) (h : Heap) (L : List Loc) : Prop := v = some (.long w1) ∧ Fr n0 L ∧ h = h0
set_option maxRecDepth 65536 in
set_option maxHeartbeats 40000000 in
theorem rm7 (l : Launch) (Z : State) (a0 : Array Value) (hw : ∀ d ∈ tables_1, d.before a0 Z = true) (ws : List Jvm.Cond) (a1 : Addr) (w1 : Int64) (h0 : Heap) (n0 : Nat) (Z0 : n0 ≤ h0.size) (F_01 : Fld Z h0 a1 "com/example/varese/varese/Interval" "start" "J" (.long w1)) :
    MetFree l (⟨"com/example/varese/varese/Interval", "start", "()J"⟩ : MethodName) (head1 (Jvm.Cond.code (⟨"com/example/varese/varese/Interval", "start", "()J"⟩ : MethodName) prog_46_method_12_code 1 (some .long) :: ws) ({ frames := 0, cells := 0, slots := 0, locals := 0 } : Room)) (fun a U => a = #[(.ref a1)] ∧ Z.Warmed39 U.vm ∧ U.heap = h0) (fun _ _ _ _ _ => True) (fun _ U o U' => ∃ v L, o = .returned v ∧ Q_rm7 Z a1 w1 h0 n0 v U'.heap L ∧ FrameEnd U o U' L ({ frames := 0, cells := 0, slots := 0, locals := 0 } : Room).cells ({ frames := 0, cells := 0, slots := 0, locals := 0 } : Room).slots) := by
  refine MetFree.of_bodySF (plainFor_of_name pn_1) hisR ?_
  intro p e s m args below meth c s₁ Bd hml0 hP hK
  obtain ⟨rfl, hZ, hh⟩ := hP
  have hx := Bd.exec
  have hby := Bd.bytes
  have hml : c.maxLocals = 1 := hml0
  have hown : s.vm.findClass "com/example/varese/varese/Interval" = some m.cls := findClass_of_methodNamed Bd.named
  have hnm := (name_of_methodNamed Bd.named Bd.method).1
  have X0 : Stand p l e ({ frames := 0, cells := 0, slots := 0, locals := 0 } : Room) s m #[(.ref a1)] below meth c s₁ [] 0 0 := Stand.of_body Bd
  have e0 : s₁.heap = h0 := by rw [← hh, Bd.state]; rfl
  have N0 := Fr.nil n0
  have pre0 : ∀ t, Steps p.tables e below (s₁.setTop (mkF m 0 #[.val (.ref a1)] [])) t → Steps p.tables e below (s₁.setTop (entryFrame m #[(.ref a1)] 1)) t := fun t k => castTop (ef_rm7 m a1) k
  have R0 : ∀ t, Steps p.tables e below (s₁.setTop (mkF m 0 #[.val (.ref a1)] [])) t → Steps p.tables e below (s₁.setTop (mkF m 0 #[.val (.ref a1)] [])) t := fun _ k => k
  have R35 : ∀ t, Steps p.tables e below (s₁.setTop (mkF m 1 #[.val (.ref a1)] [(.ref a1)])) t → Steps p.tables e below (s₁.setTop (mkF m 0 #[.val (.ref a1)] [])) t := by
    intro t k
    refine R0 t ?_
    refine XS.aloadN X0.here hx rfl (hb hby d7_0) rfl rfl ?_
    exact k
  obtain ⟨T36, X36, e36, st36⟩ := getF X0 hx hZ hown (host := "") (Or.inl (hw _ (List.mem_of_getElem? (i := 27) rfl))) Via.refl e0 F_01 (g := (mkF m 1 #[.val (.ref a1)] [(.ref a1)])) rfl rfl (hb hby d7_1)
  have R37 : ∀ t, Steps p.tables e below (T36.setTop (mkF m 4 #[.val (.ref a1)] [(.long w1)])) t → Steps p.tables e below (s₁.setTop (mkF m 0 #[.val (.ref a1)] [])) t := fun t k => R35 t (st36 _ k)
  obtain ⟨fs, hr, hrun, hended, hW, hsame⟩ := X36.leave (v := some (.long w1)) (fun h => by rw [Bd.returns] at h; cases h)
  refine ⟨_, _, pre0 _ (R37 _ (retOut X36 hx (t := .long) Bd.returns rfl (Or.inr (Or.inl ⟨rfl, rfl, _, rfl⟩)) (hb hby d7_4) hr)), hrun, hended, _, _, rfl, ?_, ⟨_, rfl⟩, hW, hsame.mono (by decide) (by decide)⟩
  show Q_rm7 Z a1 w1 h0 n0 _ T36.heap _
  rw [e36]
  exact ⟨rfl, N0, rfl⟩
theorem d10_0 : decode prog_46_method_13_code 0 = .ok (.aload_n 0, 1) := by decide +kernel
theorem d10_1 : decode prog_46_method_13_code 1 = .ok (.getfield 29, 3) := by decide +kernel
theorem d10_4 : decode prog_46_method_13_code 4 = .ok (.lreturn, 1) := by decide +kernel
theorem ef_rm10 (m : MethodId) (x0 : Addr) : entryFrame m #[(.ref x0)] 1 = mkF m 0 #[.val (.ref x0)] [] := by first | (simp [entryFrame, mkF, argsToLocals, Value.category]; done) | rfl
def Q_rm10 (Z : State) (a1 : Addr) (w1 : Int64) (h0 : Heap) (n0 : Nat) (v : Option Value) (h : Heap) (L : List Loc) : Prop := v = some (.long w1) ∧ Fr n0 L ∧ h = h0
set_option maxRecDepth 65536 in
set_option maxHeartbeats 40000000 in
theorem rm10 (l : Launch) (Z : State) (a0 : Array Value) (hw : ∀ d ∈ tables_1, d.before a0 Z = true) (ws : List Jvm.Cond) (a1 : Addr) (w1 : Int64) (h0 : Heap) (n0 : Nat) (Z0 : n0 ≤ h0.size) (F_01 : Fld Z h0 a1 "com/example/varese/varese/Interval" "end" "J" (.long w1)) :
    MetFree l (⟨"com/example/varese/varese/Interval", "end", "()J"⟩ : MethodName) (head1 (Jvm.Cond.code (⟨"com/example/varese/varese/Interval", "end", "()J"⟩ : MethodName) prog_46_method_13_code 1 (some .long) :: ws) ({ frames := 0, cells := 0, slots := 0, locals := 0 } : Room)) (fun a U => a = #[(.ref a1)] ∧ Z.Warmed39 U.vm ∧ U.heap = h0) (fun _ _ _ _ _ => True) (fun _ U o U' => ∃ v L, o = .returned v ∧ Q_rm10 Z a1 w1 h0 n0 v U'.heap L ∧ FrameEnd U o U' L ({ frames := 0, cells := 0, slots := 0, locals := 0 } : Room).cells ({ frames := 0, cells := 0, slots := 0, locals := 0 } : Room).slots) := by
  refine MetFree.of_bodySF (plainFor_of_name pn_1) hisR ?_
  intro p e s m args below meth c s₁ Bd hml0 hP hK
  obtain ⟨rfl, hZ, hh⟩ := hP
  have hx := Bd.exec
  have hby := Bd.bytes
  have hml : c.maxLocals = 1 := hml0
  have hown : s.vm.findClass "com/example/varese/varese/Interval" = some m.cls := findClass_of_methodNamed Bd.named
  have hnm := (name_of_methodNamed Bd.named Bd.method).1
  have X0 : Stand p l e ({ frames := 0, cells := 0, slots := 0, locals := 0 } : Room) s m #[(.ref a1)] below meth c s₁ [] 0 0 := Stand.of_body Bd
  have e0 : s₁.heap = h0 := by rw [← hh, Bd.state]; rfl
  have N0 := Fr.nil n0
  have pre0 : ∀ t, Steps p.tables e below (s₁.setTop (mkF m 0 #[.val (.ref a1)] [])) t → Steps p.tables e below (s₁.setTop (entryFrame m #[(.ref a1)] 1)) t := fun t k => castTop (ef_rm10 m a1) k
  have R0 : ∀ t, Steps p.tables e below (s₁.setTop (mkF m 0 #[.val (.ref a1)] [])) t → Steps p.tables e below (s₁.setTop (mkF m 0 #[.val (.ref a1)] [])) t := fun _ k => k
  have R38 : ∀ t, Steps p.tables e below (s₁.setTop (mkF m 1 #[.val (.ref a1)] [(.ref a1)])) t → Steps p.tables e below (s₁.setTop (mkF m 0 #[.val (.ref a1)] [])) t := by
    intro t k
    refine R0 t ?_
    refine XS.aloadN X0.here hx rfl (hb hby d10_0) rfl rfl ?_
    exact k
  obtain ⟨T39, X39, e39, st39⟩ := getF X0 hx hZ hown (host := "") (Or.inl (hw _ (List.mem_of_getElem? (i := 29) rfl))) Via.refl e0 F_01 (g := (mkF m 1 #[.val (.ref a1)] [(.ref a1)])) rfl rfl (hb hby d10_1)
  have R40 : ∀ t, Steps p.tables e below (T39.setTop (mkF m 4 #[.val (.ref a1)] [(.long w1)])) t → Steps p.tables e below (s₁.setTop (mkF m 0 #[.val (.ref a1)] [])) t := fun t k => R38 t (st39 _ k)
  obtain ⟨fs, hr, hrun, hended, hW, hsame⟩ := X39.leave (v := some (.long w1)) (fun h => by rw [Bd.returns] at h; cases h)
  refine ⟨_, _, pre0 _ (R40 _ (retOut X39 hx (t := .long) Bd.returns rfl (Or.inr (Or.inl ⟨rfl, rfl, _, rfl⟩)) (hb hby d10_4) hr)), hrun, hended, _, _, rfl, ?_, ⟨_, rfl⟩, hW, hsame.mono (by decide) (by decide)⟩
  show Q_rm10 Z a1 w1 h0 n0 _ T39.heap _
  rw [e39]
  exact ⟨rfl, N0, rfl⟩
theorem d8_0 : decode prog_46_method_4_code 0 = .ok (.aload_n 0, 1) := by decide +kernel
theorem d8_1 : decode prog_46_method_4_code 1 = .ok (.getfield 25, 3) := by decide +kernel
theorem d8_4 : decode prog_46_method_4_code 4 = .ok (.aload_n 1, 1) := by decide +kernel
theorem d8_5 : decode prog_46_method_4_code 5 = .ok (.getfield 25, 3) := by decide +kernel
theorem d8_8 : decode prog_46_method_4_code 8 = .ok (.lcmp, 1) := by decide +kernel
theorem d8_9 : decode prog_46_method_4_code 9 = .ok (.ifCond .gt 19, 3) := by decide +kernel
theorem d8_12 : decode prog_46_method_4_code 12 = .ok (.aload_n 1, 1) := by decide +kernel
theorem d8_13 : decode prog_46_method_4_code 13 = .ok (.getfield 29, 3) := by decide +kernel
theorem d8_16 : decode prog_46_method_4_code 16 = .ok (.aload_n 0, 1) := by decide +kernel
theorem d8_17 : decode prog_46_method_4_code 17 = .ok (.getfield 29, 3) := by decide +kernel
theorem d8_20 : decode prog_46_method_4_code 20 = .ok (.lcmp, 1) := by decide +kernel
theorem d8_21 : decode prog_46_method_4_code 21 = .ok (.ifCond .gt 7, 3) := by decide +kernel
theorem d8_24 : decode prog_46_method_4_code 24 = .ok (.iconst 1, 1) := by decide +kernel
theorem d8_25 : decode prog_46_method_4_code 25 = .ok (.goto 4, 3) := by decide +kernel
theorem d8_28 : decode prog_46_method_4_code 28 = .ok (.iconst 0, 1) := by decide +kernel
theorem d8_29 : decode prog_46_method_4_code 29 = .ok (.ireturn, 1) := by decide +kernel
theorem ef_rm8 (m : MethodId) (x0 : Addr) (x1 : Addr) : entryFrame m #[(.ref x0), (.ref x1)] 2 = mkF m 0 #[.val (.ref x0), .val (.ref x1)] [] := by first | (simp [entryFrame, mkF, argsToLocals, Value.category]; done) | rfl
def Q_rm8 (Z : State) (a1 : Addr) (a2 : Addr) (w1 w2 w3 w4 : Int64) (h0 : Heap) (n0 : Nat) (v : Option Value) (h : Heap) (L : List Loc) : Prop := v = some (.int (own_enc w1 w2 w3 w4)) ∧ Fr n0 L ∧ h = h0
set_option maxRecDepth 65536 in
set_option maxHeartbeats 40000000 in
theorem rm8 (l : Launch) (Z : State) (a0 : Array Value) (hw : ∀ d ∈ tables_1, d.before a0 Z = true) (ws : List Jvm.Cond) (a1 : Addr) (a2 : Addr) (w1 w2 w3 w4 : Int64) (h0 : Heap) (n0 : Nat) (Z0 : n0 ≤ h0.size) (F_01 : Fld Z h0 a1 "com/example/varese/varese/Interval" "start" "J" (.long w1)) (F_02 : Fld Z h0 a1 "com/example/varese/varese/Interval" "end" "J" (.long w2)) (F_03 : Fld Z h0 a2 "com/example/varese/varese/Interval" "start" "J" (.long w3)) (F_04 : Fld Z h0 a2 "com/example/varese/varese/Interval" "end" "J" (.long w4)) :
    MetFree l (⟨"com/example/varese/varese/Interval", "encloses", "(Lcom/example/varese/varese/Interval;)Z"⟩ : MethodName) (head1 (Jvm.Cond.code (⟨"com/example/varese/varese/Interval", "encloses", "(Lcom/example/varese/varese/Interval;)Z"⟩ : MethodName) prog_46_method_4_code 2 (some .boolean) :: ws) ({ frames := 0, cells := 0, slots := 0, locals := 0 } : Room)) (fun a U => a = #[(.ref a1), (.ref a2)] ∧ Z.Warmed39 U.vm ∧ U.heap = h0) (fun _ _ _ _ _ => True) (fun _ U o U' => ∃ v L, o = .returned v ∧ Q_rm8 Z a1 a2 w1 w2 w3 w4 h0 n0 v U'.heap L ∧ FrameEnd U o U' L ({ frames := 0, cells := 0, slots := 0, locals := 0 } : Room).cells ({ frames := 0, cells := 0, slots := 0, locals := 0 } : Room).slots) := by
  refine MetFree.of_bodySF (plainFor_of_name pn_1) hisR ?_
  intro p e s m args below meth c s₁ Bd hml0 hP hK
  obtain ⟨rfl, hZ, hh⟩ := hP
  have hx := Bd.exec
  have hby := Bd.bytes
  have hml : c.maxLocals = 2 := hml0
  have hown : s.vm.findClass "com/example/varese/varese/Interval" = some m.cls := findClass_of_methodNamed Bd.named
  have hnm := (name_of_methodNamed Bd.named Bd.method).1
  have X0 : Stand p l e ({ frames := 0, cells := 0, slots := 0, locals := 0 } : Room) s m #[(.ref a1), (.ref a2)] below meth c s₁ [] 0 0 := Stand.of_body Bd
  have e0 : s₁.heap = h0 := by rw [← hh, Bd.state]; rfl
  have N0 := Fr.nil n0
  have pre0 : ∀ t, Steps p.tables e below (s₁.setTop (mkF m 0 #[.val (.ref a1), .val (.ref a2)] [])) t → Steps p.tables e below (s₁.setTop (entryFrame m #[(.ref a1), (.ref a2)] 2)) t := fun t k => castTop (ef_rm8 m a1 a2) k
  have R0 : ∀ t, Steps p.tables e below (s₁.setTop (mkF m 0 #[.val (.ref a1), .val (.ref a2)] [])) t → Steps p.tables e below (s₁.setTop (mkF m 0 #[.val (.ref a1), .val (.ref a2)] [])) t := fun _ k => k
  have R41 : ∀ t, Steps p.tables e below (s₁.setTop (mkF m 1 #[.val (.ref a1), .val (.ref a2)] [(.ref a1)])) t → Steps p.tables e below (s₁.setTop (mkF m 0 #[.val (.ref a1), .val (.ref a2)] [])) t := by
    intro t k
    refine R0 t ?_
    refine XS.aloadN X0.here hx rfl (hb hby d8_0) rfl rfl ?_
    exact k
  obtain ⟨T42, X42, e42, st42⟩ := getF X0 hx hZ hown (host := "") (Or.inl (hw _ (List.mem_of_getElem? (i := 27) rfl))) Via.refl e0 F_01 (g := (mkF m 1 #[.val (.ref a1), .val (.ref a2)] [(.ref a1)])) rfl rfl (hb hby d8_1)
  have R43 : ∀ t, Steps p.tables e below (T42.setTop (mkF m 4 #[.val (.ref a1), .val (.ref a2)] [(.long w1)])) t → Steps p.tables e below (s₁.setTop (mkF m 0 #[.val (.ref a1), .val (.ref a2)] [])) t := fun t k => R41 t (st42 _ k)
  have R44 : ∀ t, Steps p.tables e below (T42.setTop (mkF m 5 #[.val (.ref a1), .val (.ref a2)] [(.ref a2), (.long w1)])) t → Steps p.tables e below (s₁.setTop (mkF m 0 #[.val (.ref a1), .val (.ref a2)] [])) t := by
    intro t k
    refine R43 t ?_
    refine XS.aloadN X42.here hx rfl (hb hby d8_4) rfl rfl ?_
    exact k
  obtain ⟨T45, X45, e45, st45⟩ := getF X42 hx hZ hown (host := "") (Or.inl (hw _ (List.mem_of_getElem? (i := 27) rfl))) Via.refl e42 F_03 (g := (mkF m 5 #[.val (.ref a1), .val (.ref a2)] [(.ref a2), (.long w1)])) rfl rfl (hb hby d8_5)
  have R46 : ∀ t, Steps p.tables e below (T45.setTop (mkF m 8 #[.val (.ref a1), .val (.ref a2)] [(.long w3), (.long w1)])) t → Steps p.tables e below (s₁.setTop (mkF m 0 #[.val (.ref a1), .val (.ref a2)] [])) t := fun t k => R44 t (st45 _ k)
  have R47 : ∀ t, Steps p.tables e below (T45.setTop (mkF m 9 #[.val (.ref a1), .val (.ref a2)] [(.int (lcmpW w1 w3))])) t → Steps p.tables e below (s₁.setTop (mkF m 0 #[.val (.ref a1), .val (.ref a2)] [])) t := by
    intro t k
    refine R46 t ?_
    refine XS.lcmp X45.here hx rfl (hb hby d8_8) rfl ?_
    exact k
  by_cases hc : w3 < w1
  · have R48 : ∀ t, Steps p.tables e below (T45.setTop (mkF m 28 #[.val (.ref a1), .val (.ref a2)] [])) t → Steps p.tables e below (s₁.setTop (mkF m 0 #[.val (.ref a1), .val (.ref a2)] [])) t := by
      intro t k
      refine R47 t ?_
      refine XS.ifYes X45.here hx rfl (pc0 := 9) (pc' := 28) rfl (hb hby d8_9) rfl ((if0 _ _).trans (tlt ((lw_gt _ _).mpr hc)).2.2.1) (by decide) (by decide) ?_
      exact k
    have R49 : ∀ t, Steps p.tables e below (T45.setTop (mkF m 29 #[.val (.ref a1), .val (.ref a2)] [(.int (0 : Int32))])) t → Steps p.tables e below (s₁.setTop (mkF m 0 #[.val (.ref a1), .val (.ref a2)] [])) t := by
      intro t k
      refine R48 t ?_
      refine XS.iconst X45.here hx rfl (hb hby d8_28) ?_
      exact k
    obtain ⟨fs, hr, hrun, hended, hW, hsame⟩ := X45.leave (v := some (.int (0 : Int32))) (fun h => by rw [Bd.returns] at h; cases h)
    refine ⟨_, _, pre0 _ (R49 _ (retN X45 hx (t := .boolean) Bd.returns (by simp) (hb hby d8_29) hr)), hrun, hended, _, _, rfl, ?_, ⟨_, rfl⟩, hW, hsame.mono (by decide) (by decide)⟩
    show Q_rm8 Z a1 a2 w1 w2 w3 w4 h0 n0 _ T45.heap _
    rw [e45]
    exact ⟨by simp [own_enc, hc], N0, rfl⟩
  · have R50 : ∀ t, Steps p.tables e below (T45.setTop (mkF m 12 #[.val (.ref a1), .val (.ref a2)] [])) t → Steps p.tables e below (s₁.setTop (mkF m 0 #[.val (.ref a1), .val (.ref a2)] [])) t := by
      intro t k
      refine R47 t ?_
      refine XS.ifNo X45.here hx rfl (hb hby d8_9) rfl ((if0 _ _).trans (flt (mt (lw_gt _ _).mp hc)).2.2.1) ?_
      exact k
    have R51 : ∀ t, Steps p.tables e below (T45.setTop (mkF m 13 #[.val (.ref a1), .val (.ref a2)] [(.ref a2)])) t → Steps p.tables e below (s₁.setTop (mkF m 0 #[.val (.ref a1), .val (.ref a2)] [])) t := by
      intro t k
      refine R50 t ?_
      refine XS.aloadN X45.here hx rfl (hb hby d8_12) rfl rfl ?_
      exact k
    obtain ⟨T52, X52, e52, st52⟩ := getF X45 hx hZ hown (host := "") (Or.inl (hw _ (List.mem_of_getElem? (i := 29) rfl))) Via.refl e45 F_04 (g := (mkF m 13 #[.val (.ref a1), .val (.ref a2)] [(.ref a2)])) rfl rfl (hb hby d8_13)
    have R53 : ∀ t, Steps p.tables e below (T52.setTop (mkF m 16 #[.val (.ref a1), .val (.ref a2)] [(.long w4)])) t → Steps p.tables e below (s₁.setTop (mkF m 0 #[.val (.ref a1), .val (.ref a2)] [])) t := fun t k => R51 t (st52 _ k)
    have R54 : ∀ t, Steps p.tables e below (T52.setTop (mkF m 17 #[.val (.ref a1), .val (.ref a2)] [(.ref a1), (.long w4)])) t → Steps p.tables e below (s₁.setTop (mkF m 0 #[.val (.ref a1), .val (.ref a2)] [])) t := by
      intro t k
      refine R53 t ?_
      refine XS.aloadN X52.here hx rfl (hb hby d8_16) rfl rfl ?_
      exact k
    obtain ⟨T55, X55, e55, st55⟩ := getF X52 hx hZ hown (host := "") (Or.inl (hw _ (List.mem_of_getElem? (i := 29) rfl))) Via.refl e52 F_02 (g := (mkF m 17 #[.val (.ref a1), .val (.ref a2)] [(.ref a1), (.long w4)])) rfl rfl (hb hby d8_17)
    have R56 : ∀ t, Steps p.tables e below (T55.setTop (mkF m 20 #[.val (.ref a1), .val (.ref a2)] [(.long w2), (.long w4)])) t → Steps p.tables e below (s₁.setTop (mkF m 0 #[.val (.ref a1), .val (.ref a2)] [])) t := fun t k => R54 t (st55 _ k)
    have R57 : ∀ t, Steps p.tables e below (T55.setTop (mkF m 21 #[.val (.ref a1), .val (.ref a2)] [(.int (lcmpW w4 w2))])) t → Steps p.tables e below (s₁.setTop (mkF m 0 #[.val (.ref a1), .val (.ref a2)] [])) t := by
      intro t k
      refine R56 t ?_
      refine XS.lcmp X55.here hx rfl (hb hby d8_20) rfl ?_
      exact k
    by_cases hd : w2 < w4
    · have R58 : ∀ t, Steps p.tables e below (T55.setTop (mkF m 28 #[.val (.ref a1), .val (.ref a2)] [])) t → Steps p.tables e below (s₁.setTop (mkF m 0 #[.val (.ref a1), .val (.ref a2)] [])) t := by
        intro t k
        refine R57 t ?_
        refine XS.ifYes X55.here hx rfl (pc0 := 21) (pc' := 28) rfl (hb hby d8_21) rfl ((if0 _ _).trans (tlt ((lw_gt _ _).mpr hd)).2.2.1) (by decide) (by decide) ?_
        exact k
      have R59 : ∀ t, Steps p.tables e below (T55.setTop (mkF m 29 #[.val (.ref a1), .val (.ref a2)] [(.int (0 : Int32))])) t → Steps p.tables e below (s₁.setTop (mkF m 0 #[.val (.ref a1), .val (.ref a2)] [])) t := by
        intro t k
        refine R58 t ?_
        refine XS.iconst X55.here hx rfl (hb hby d8_28) ?_
        exact k
      obtain ⟨fs, hr, hrun, hended, hW, hsame⟩ := X55.leave (v := some (.int (0 : Int32))) (fun h => by rw [Bd.returns] at h; cases h)
      refine ⟨_, _, pre0 _ (R59 _ (retN X55 hx (t := .boolean) Bd.returns (by simp) (hb hby d8_29) hr)), hrun, hended, _, _, rfl, ?_, ⟨_, rfl⟩, hW, hsame.mono (by decide) (by decide)⟩
      show Q_rm8 Z a1 a2 w1 w2 w3 w4 h0 n0 _ T55.heap _
      rw [e55]
      exact ⟨by simp [own_enc, hc, hd], N0, rfl⟩
    · have R60 : ∀ t, Steps p.tables e below (T55.setTop (mkF m 24 #[.val (.ref a1), .val (.ref a2)] [])) t → Steps p.tables e below (s₁.setTop (mkF m 0 #[.val (.ref a1), .val (.ref a2)] [])) t := by
        intro t k
        refine R57 t ?_
        refine XS.ifNo X55.here hx rfl (hb hby d8_21) rfl ((if0 _ _).trans (flt (mt (lw_gt _ _).mp hd)).2.2.1) ?_
        exact k
      have R61 : ∀ t, Steps p.tables e below (T55.setTop (mkF m 29 #[.val (.ref a1), .val (.ref a2)] [(.int (1 : Int32))])) t → Steps p.tables e below (s₁.setTop (mkF m 0 #[.val (.ref a1), .val (.ref a2)] [])) t := by
        intro t k
        refine R60 t ?_
        refine XS.iconst X55.here hx rfl (hb hby d8_24) ?_
        refine XS.goto X55.here hx rfl (pc0 := 25) (pc' := 29) rfl (hb hby d8_25) (by decide) (by decide) ?_
        exact k
      obtain ⟨fs, hr, hrun, hended, hW, hsame⟩ := X55.leave (v := some (.int (1 : Int32))) (fun h => by rw [Bd.returns] at h; cases h)
      refine ⟨_, _, pre0 _ (R61 _ (retN X55 hx (t := .boolean) Bd.returns (by simp) (hb hby d8_29) hr)), hrun, hended, _, _, rfl, ?_, ⟨_, rfl⟩, hW, hsame.mono (by decide) (by decide)⟩
      show Q_rm8 Z a1 a2 w1 w2 w3 w4 h0 n0 _ T55.heap _
      rw [e55]
      exact ⟨by simp [own_enc, hc, hd], N0, rfl⟩
theorem d9_0 : decode method_3_code 0 = .ok (.aload_n 0, 1) := by decide +kernel
theorem d9_1 : decode method_3_code 1 = .ok (.invokevirtual 27, 3) := by decide +kernel
theorem d9_4 : decode method_3_code 4 = .ok (.lload_n 1, 1) := by decide +kernel
theorem d9_5 : decode method_3_code 5 = .ok (.lcmp, 1) := by decide +kernel
theorem d9_6 : decode method_3_code 6 = .ok (.ifCond .gt 16, 3) := by decide +kernel
theorem d9_9 : decode method_3_code 9 = .ok (.lload_n 1, 1) := by decide +kernel
theorem d9_10 : decode method_3_code 10 = .ok (.aload_n 0, 1) := by decide +kernel
theorem d9_11 : decode method_3_code 11 = .ok (.invokevirtual 31, 3) := by decide +kernel
theorem d9_14 : decode method_3_code 14 = .ok (.lcmp, 1) := by decide +kernel
theorem d9_15 : decode method_3_code 15 = .ok (.ifCond .gt 7, 3) := by decide +kernel
theorem d9_18 : decode method_3_code 18 = .ok (.iconst 1, 1) := by decide +kernel
theorem d9_19 : decode method_3_code 19 = .ok (.goto 4, 3) := by decide +kernel
theorem d9_22 : decode method_3_code 22 = .ok (.iconst 0, 1) := by decide +kernel
theorem d9_23 : decode method_3_code 23 = .ok (.ireturn, 1) := by decide +kernel
theorem pn_2 : plainName "com/example/varese/varese/IntervalEnclosesPinLaw" = true := by first | (simp [plainName, overriddenIn]; done) | decide +kernel
theorem pd_1 : parseMethodDescriptor "()J" = some ⟨[], some .long⟩ := by decide +kernel
theorem ef_rm9 (m : MethodId) (x0 : Addr) (x1 : Int64) : entryFrame m #[(.ref x0), (.long x1)] 3 = mkF m 0 #[.val (.ref x0), .val (.long x1), .second] [] := by first | (simp [entryFrame, mkF, argsToLocals, Value.category]; done) | rfl
def Q_rm9 (Z : State) (a1 : Addr) (q2 : Int64) (w1 w2 : Int64) (h0 : Heap) (n0 : Nat) (v : Option Value) (h : Heap) (L : List Loc) : Prop := v = some (.int (own_in w1 w2 q2)) ∧ Fr n0 L ∧ h = h0
set_option maxRecDepth 65536 in
set_option maxHeartbeats 40000000 in
theorem rm9 (l : Launch) (Z : State) (a0 : Array Value) (hw : ∀ d ∈ tables_1, d.before a0 Z = true) (ws : List Jvm.Cond) (a1 : Addr) (q2 : Int64) (w1 w2 : Int64) (h0 : Heap) (n0 : Nat) (Z0 : n0 ≤ h0.size) (E_0 : Exa Z h0 a1 "com/example/varese/varese/Interval") (F_01 : Fld Z h0 a1 "com/example/varese/varese/Interval" "start" "J" (.long w1)) (F_02 : Fld Z h0 a1 "com/example/varese/varese/Interval" "end" "J" (.long w2)) :
    MetFree l (⟨"com/example/varese/varese/IntervalEnclosesPinLaw", "in", "(Lcom/example/varese/varese/Interval;J)Z"⟩ : MethodName) (head1 (Jvm.Cond.code (⟨"com/example/varese/varese/IntervalEnclosesPinLaw", "in", "(Lcom/example/varese/varese/Interval;J)Z"⟩ : MethodName) method_3_code 3 (some .boolean) :: ws) ({ frames := 1, cells := 0, slots := 0, locals := 14 } : Room)) (fun a U => a = #[(.ref a1), (.long q2)] ∧ Z.Warmed39 U.vm ∧ U.heap = h0) (fun _ _ _ _ _ => True) (fun _ U o U' => ∃ v L, o = .returned v ∧ Q_rm9 Z a1 q2 w1 w2 h0 n0 v U'.heap L ∧ FrameEnd U o U' L ({ frames := 1, cells := 0, slots := 0, locals := 14 } : Room).cells ({ frames := 1, cells := 0, slots := 0, locals := 14 } : Room).slots) := by
  refine MetFree.of_bodySF (plainFor_of_name pn_2) hisR ?_
  intro p e s m args below meth c s₁ Bd hml0 hP hK
  obtain ⟨rfl, hZ, hh⟩ := hP
  have hx := Bd.exec
  have hby := Bd.bytes
  have hml : c.maxLocals = 3 := hml0
  have hown : s.vm.findClass "com/example/varese/varese/IntervalEnclosesPinLaw" = some m.cls := findClass_of_methodNamed Bd.named
  have hnm := (name_of_methodNamed Bd.named Bd.method).1
  have X0 : Stand p l e ({ frames := 1, cells := 0, slots := 0, locals := 14 } : Room) s m #[(.ref a1), (.long q2)] below meth c s₁ [] 0 0 := Stand.of_body Bd
  have e0 : s₁.heap = h0 := by rw [← hh, Bd.state]; rfl
  have N0 := Fr.nil n0
  have pre0 : ∀ t, Steps p.tables e below (s₁.setTop (mkF m 0 #[.val (.ref a1), .val (.long q2), .second] [])) t → Steps p.tables e below (s₁.setTop (entryFrame m #[(.ref a1), (.long q2)] 3)) t := fun t k => castTop (ef_rm9 m a1 q2) k
  have R0 : ∀ t, Steps p.tables e below (s₁.setTop (mkF m 0 #[.val (.ref a1), .val (.long q2), .second] [])) t → Steps p.tables e below (s₁.setTop (mkF m 0 #[.val (.ref a1), .val (.long q2), .second] [])) t := fun _ k => k
  have R62 : ∀ t, Steps p.tables e below (s₁.setTop (mkF m 1 #[.val (.ref a1), .val (.long q2), .second] [(.ref a1)])) t → Steps p.tables e below (s₁.setTop (mkF m 0 #[.val (.ref a1), .val (.long q2), .second] [])) t := by
    intro t k
    refine R0 t ?_
    refine XS.aloadN X0.here hx rfl (hb hby d9_0) rfl rfl ?_
    exact k
  obtain ⟨_, _, q64a, q64b, q64c⟩ := isOf hZ e0 E_0
  obtain ⟨_, _, ⟨T63, L63, k63, n63⟩, -, X63, ⟨Lc63, hQ63, l63, y63, z63⟩, st63⟩ := X0.virtualBack hx (y := (⟨"com/example/varese/varese/Interval", "start", "()J"⟩ : MethodName)) (z := (⟨"com/example/varese/varese/Interval", "start", "()J"⟩ : MethodName)) hown (mvT hZ (hw _ (List.mem_of_getElem? (i := 31) rfl))) (mvT hZ (hw _ (List.mem_of_getElem? (i := 32) rfl))) (notFace_of_selects (args := #[]) (mvT hZ (hw _ (List.mem_of_getElem? (i := 34) rfl)))) (mvT hZ (hw _ (List.mem_of_getElem? (i := 34) rfl))) (mvT hZ (hw _ (List.mem_of_getElem? (i := 33) rfl))) (by decide) (backOf (W := 0) (rm7 l Z a0 hw [] a1 w1 h0 n0 Z0 F_01) hZ (hw _ (List.mem_of_getElem? (i := 35) rfl)) (hw _ (List.mem_of_getElem? (i := 14) rfl)) (by decide) (by decide)) q64a q64c (g := (mkF m 1 #[.val (.ref a1), .val (.long q2), .second] [(.ref a1)])) rfl (by rw [hml]; rfl) (Steps.refl _) (argsL := []) (rest := []) (lenOf pd_1 rfl) rfl (by show 2 * 0 + _ ≤ _; exact Nat.le_of_eq rfl) (hb hby d9_1) (fun _ _ => ⟨rfl, e0, (by decide : 0 + 0 ≤ _), (by decide : 0 + 0 ≤ _)⟩)
  dsimp only [Pt.U, Pt.locs, Pt.cells, Pt.slots] at X63 l63 y63 z63 st63 hQ63
  subst l63 y63 z63
  obtain ⟨rfl, M63, e63⟩ := hQ63
  have N63 := Fr.app N0 M63
  have R65 : ∀ t, Steps p.tables e below (T63.setTop (mkF m 4 #[.val (.ref a1), .val (.long q2), .second] [(.long w1)])) t → Steps p.tables e below (s₁.setTop (mkF m 0 #[.val (.ref a1), .val (.long q2), .second] [])) t := fun t k => R62 t (st63.trans k)
  have R66 : ∀ t, Steps p.tables e below (T63.setTop (mkF m 6 #[.val (.ref a1), .val (.long q2), .second] [(.int (lcmpW w1 q2))])) t → Steps p.tables e below (s₁.setTop (mkF m 0 #[.val (.ref a1), .val (.long q2), .second] [])) t := by
    intro t k
    refine R65 t ?_
    refine XS.lloadN X63.here hx rfl (hb hby d9_4) rfl ?_
    refine XS.lcmp X63.here hx rfl (hb hby d9_5) rfl ?_
    exact k
  by_cases hc : q2 < w1
  · have R67 : ∀ t, Steps p.tables e below (T63.setTop (mkF m 22 #[.val (.ref a1), .val (.long q2), .second] [])) t → Steps p.tables e below (s₁.setTop (mkF m 0 #[.val (.ref a1), .val (.long q2), .second] [])) t := by
      intro t k
      refine R66 t ?_
      refine XS.ifYes X63.here hx rfl (pc0 := 6) (pc' := 22) rfl (hb hby d9_6) rfl ((if0 _ _).trans (tlt ((lw_gt _ _).mpr hc)).2.2.1) (by decide) (by decide) ?_
      exact k
    have R68 : ∀ t, Steps p.tables e below (T63.setTop (mkF m 23 #[.val (.ref a1), .val (.long q2), .second] [(.int (0 : Int32))])) t → Steps p.tables e below (s₁.setTop (mkF m 0 #[.val (.ref a1), .val (.long q2), .second] [])) t := by
      intro t k
      refine R67 t ?_
      refine XS.iconst X63.here hx rfl (hb hby d9_22) ?_
      exact k
    obtain ⟨fs, hr, hrun, hended, hW, hsame⟩ := X63.leave (v := some (.int (0 : Int32))) (fun h => by rw [Bd.returns] at h; cases h)
    refine ⟨_, _, pre0 _ (R68 _ (retN X63 hx (t := .boolean) Bd.returns (by simp) (hb hby d9_23) hr)), hrun, hended, _, _, rfl, ?_, ⟨_, rfl⟩, hW, hsame.mono (by decide) (by decide)⟩
    show Q_rm9 Z a1 q2 w1 w2 h0 n0 _ T63.heap _
    rw [e63]
    exact ⟨by simp [own_in, hc], N63, rfl⟩
  · have R69 : ∀ t, Steps p.tables e below (T63.setTop (mkF m 9 #[.val (.ref a1), .val (.long q2), .second] [])) t → Steps p.tables e below (s₁.setTop (mkF m 0 #[.val (.ref a1), .val (.long q2), .second] [])) t := by
      intro t k
      refine R66 t ?_
      refine XS.ifNo X63.here hx rfl (hb hby d9_6) rfl ((if0 _ _).trans (flt (mt (lw_gt _ _).mp hc)).2.2.1) ?_
      exact k
    have R70 : ∀ t, Steps p.tables e below (T63.setTop (mkF m 11 #[.val (.ref a1), .val (.long q2), .second] [(.ref a1), (.long q2)])) t → Steps p.tables e below (s₁.setTop (mkF m 0 #[.val (.ref a1), .val (.long q2), .second] [])) t := by
      intro t k
      refine R69 t ?_
      refine XS.lloadN X63.here hx rfl (hb hby d9_9) rfl ?_
      refine XS.aloadN X63.here hx rfl (hb hby d9_10) rfl rfl ?_
      exact k
    obtain ⟨_, _, q72a, q72b, q72c⟩ := isOf hZ e63 E_0
    obtain ⟨_, _, ⟨T71, L71, k71, n71⟩, -, X71, ⟨Lc71, hQ71, l71, y71, z71⟩, st71⟩ := X63.virtualBack hx (y := (⟨"com/example/varese/varese/Interval", "end", "()J"⟩ : MethodName)) (z := (⟨"com/example/varese/varese/Interval", "end", "()J"⟩ : MethodName)) hown (mvT hZ (hw _ (List.mem_of_getElem? (i := 44) rfl))) (mvT hZ (hw _ (List.mem_of_getElem? (i := 45) rfl))) (notFace_of_selects (args := #[]) (mvT hZ (hw _ (List.mem_of_getElem? (i := 47) rfl)))) (mvT hZ (hw _ (List.mem_of_getElem? (i := 47) rfl))) (mvT hZ (hw _ (List.mem_of_getElem? (i := 46) rfl))) (by decide) (backOf (W := 2) (rm10 l Z a0 hw [] a1 w2 h0 n0 Z0 F_02) hZ (hw _ (List.mem_of_getElem? (i := 48) rfl)) (hw _ (List.mem_of_getElem? (i := 14) rfl)) (by decide) (by decide)) q72a q72c (g := (mkF m 11 #[.val (.ref a1), .val (.long q2), .second] [(.ref a1), (.long q2)])) rfl (by rw [hml]; rfl) (Steps.refl _) (argsL := []) (rest := [(.long q2)]) (lenOf pd_1 rfl) rfl (by show 2 * 0 + _ ≤ _; exact Nat.le_of_eq rfl) (hb hby d9_11) (fun _ _ => ⟨rfl, e63, (by decide : 0 + 0 ≤ _), (by decide : 0 + 0 ≤ _)⟩)
    dsimp only [Pt.U, Pt.locs, Pt.cells, Pt.slots] at X71 l71 y71 z71 st71 hQ71
    subst l71 y71 z71
    obtain ⟨rfl, M71, e71⟩ := hQ71
    have N71 := Fr.app N63 M71
    have R73 : ∀ t, Steps p.tables e below (T71.setTop (mkF m 14 #[.val (.ref a1), .val (.long q2), .second] [(.long w2), (.long q2)])) t → Steps p.tables e below (s₁.setTop (mkF m 0 #[.val (.ref a1), .val (.long q2), .second] [])) t := fun t k => R70 t (st71.trans k)
    have R74 : ∀ t, Steps p.tables e below (T71.setTop (mkF m 15 #[.val (.ref a1), .val (.long q2), .second] [(.int (lcmpW q2 w2))])) t → Steps p.tables e below (s₁.setTop (mkF m 0 #[.val (.ref a1), .val (.long q2), .second] [])) t := by
      intro t k
      refine R73 t ?_
      refine XS.lcmp X71.here hx rfl (hb hby d9_14) rfl ?_
      exact k
    by_cases hd : w2 < q2
    · have R75 : ∀ t, Steps p.tables e below (T71.setTop (mkF m 22 #[.val (.ref a1), .val (.long q2), .second] [])) t → Steps p.tables e below (s₁.setTop (mkF m 0 #[.val (.ref a1), .val (.long q2), .second] [])) t := by
        intro t k
        refine R74 t ?_
        refine XS.ifYes X71.here hx rfl (pc0 := 15) (pc' := 22) rfl (hb hby d9_15) rfl ((if0 _ _).trans (tlt ((lw_gt _ _).mpr hd)).2.2.1) (by decide) (by decide) ?_
        exact k
      have R76 : ∀ t, Steps p.tables e below (T71.setTop (mkF m 23 #[.val (.ref a1), .val (.long q2), .second] [(.int (0 : Int32))])) t → Steps p.tables e below (s₁.setTop (mkF m 0 #[.val (.ref a1), .val (.long q2), .second] [])) t := by
        intro t k
        refine R75 t ?_
        refine XS.iconst X71.here hx rfl (hb hby d9_22) ?_
        exact k
      obtain ⟨fs, hr, hrun, hended, hW, hsame⟩ := X71.leave (v := some (.int (0 : Int32))) (fun h => by rw [Bd.returns] at h; cases h)
      refine ⟨_, _, pre0 _ (R76 _ (retN X71 hx (t := .boolean) Bd.returns (by simp) (hb hby d9_23) hr)), hrun, hended, _, _, rfl, ?_, ⟨_, rfl⟩, hW, hsame.mono (by decide) (by decide)⟩
      show Q_rm9 Z a1 q2 w1 w2 h0 n0 _ T71.heap _
      rw [e71]
      exact ⟨by simp [own_in, hc, hd], N71, rfl⟩
    · have R77 : ∀ t, Steps p.tables e below (T71.setTop (mkF m 18 #[.val (.ref a1), .val (.long q2), .second] [])) t → Steps p.tables e below (s₁.setTop (mkF m 0 #[.val (.ref a1), .val (.long q2), .second] [])) t := by
        intro t k
        refine R74 t ?_
        refine XS.ifNo X71.here hx rfl (hb hby d9_15) rfl ((if0 _ _).trans (flt (mt (lw_gt _ _).mp hd)).2.2.1) ?_
        exact k
      have R78 : ∀ t, Steps p.tables e below (T71.setTop (mkF m 23 #[.val (.ref a1), .val (.long q2), .second] [(.int (1 : Int32))])) t → Steps p.tables e below (s₁.setTop (mkF m 0 #[.val (.ref a1), .val (.long q2), .second] [])) t := by
        intro t k
        refine R77 t ?_
        refine XS.iconst X71.here hx rfl (hb hby d9_18) ?_
        refine XS.goto X71.here hx rfl (pc0 := 19) (pc' := 23) rfl (hb hby d9_19) (by decide) (by decide) ?_
        exact k
      obtain ⟨fs, hr, hrun, hended, hW, hsame⟩ := X71.leave (v := some (.int (1 : Int32))) (fun h => by rw [Bd.returns] at h; cases h)
      refine ⟨_, _, pre0 _ (R78 _ (retN X71 hx (t := .boolean) Bd.returns (by simp) (hb hby d9_23) hr)), hrun, hended, _, _, rfl, ?_, ⟨_, rfl⟩, hW, hsame.mono (by decide) (by decide)⟩
      show Q_rm9 Z a1 q2 w1 w2 h0 n0 _ T71.heap _
      rw [e71]
      exact ⟨by simp [own_in, hc, hd], N71, rfl⟩
theorem d1_0 : decode method_2_code 0 = .ok (.lload_n 0, 1) := by decide +kernel
theorem d1_1 : decode method_2_code 1 = .ok (.ldc2_w 9, 3) := by decide +kernel
theorem d1_4 : decode method_2_code 4 = .ok (.land, 1) := by decide +kernel
theorem d1_5 : decode method_2_code 5 = .ok (.lstore 5, 2) := by decide +kernel
theorem d1_7 : decode method_2_code 7 = .ok (.lload_n 2, 1) := by decide +kernel
theorem d1_8 : decode method_2_code 8 = .ok (.ldc2_w 9, 3) := by decide +kernel
theorem d1_11 : decode method_2_code 11 = .ok (.land, 1) := by decide +kernel
theorem d1_12 : decode method_2_code 12 = .ok (.lstore 7, 2) := by decide +kernel
theorem d1_14 : decode method_2_code 14 = .ok (.lload 5, 2) := by decide +kernel
theorem d1_16 : decode method_2_code 16 = .ok (.lload 7, 2) := by decide +kernel
theorem d1_18 : decode method_2_code 18 = .ok (.invokestatic 11, 3) := by decide +kernel
theorem d1_21 : decode method_2_code 21 = .ok (.lstore 9, 2) := by decide +kernel
theorem d1_23 : decode method_2_code 23 = .ok (.lload 5, 2) := by decide +kernel
theorem d1_25 : decode method_2_code 25 = .ok (.lload 7, 2) := by decide +kernel
theorem d1_27 : decode method_2_code 27 = .ok (.invokestatic 17, 3) := by decide +kernel
theorem d1_30 : decode method_2_code 30 = .ok (.lstore 11, 2) := by decide +kernel
theorem d1_32 : decode method_2_code 32 = .ok (.lload 9, 2) := by decide +kernel
theorem d1_34 : decode method_2_code 34 = .ok (.ldc2_w 9, 3) := by decide +kernel
theorem d1_37 : decode method_2_code 37 = .ok (.lcmp, 1) := by decide +kernel
theorem d1_38 : decode method_2_code 38 = .ok (.ifCond .ne 8, 3) := by decide +kernel
theorem d1_41 : decode method_2_code 41 = .ok (.ldc2_w 20, 3) := by decide +kernel
theorem d1_44 : decode method_2_code 44 = .ok (.lstore 9, 2) := by decide +kernel
theorem d1_46 : decode method_2_code 46 = .ok (.iload 4, 2) := by decide +kernel
theorem d1_48 : decode method_2_code 48 = .ok (.ifCond .eq 8, 3) := by decide +kernel
theorem d1_51 : decode method_2_code 51 = .ok (.ldc2_w 9, 3) := by decide +kernel
theorem d1_54 : decode method_2_code 54 = .ok (.lstore 11, 2) := by decide +kernel
theorem d1_56 : decode method_2_code 56 = .ok (.new 22, 3) := by decide +kernel
theorem d1_59 : decode method_2_code 59 = .ok (.dup, 1) := by decide +kernel
theorem d1_60 : decode method_2_code 60 = .ok (.lload 9, 2) := by decide +kernel
theorem d1_62 : decode method_2_code 62 = .ok (.lload 11, 2) := by decide +kernel
theorem d1_64 : decode method_2_code 64 = .ok (.invokespecial 24, 3) := by decide +kernel
theorem d1_67 : decode method_2_code 67 = .ok (.areturn, 1) := by decide +kernel
theorem pd_2 : parseMethodDescriptor "(JJ)J" = some ⟨[.long, .long], some .long⟩ := by decide +kernel
theorem pd_3 : parseMethodDescriptor "(JJ)V" = some ⟨[.long, .long], none⟩ := by decide +kernel
theorem ef_rm1 (m : MethodId) (x0 : Int64) (x1 : Int64) (x2 : Int32) : entryFrame m #[(.long x0), (.long x1), (.int x2)] 13 = mkF m 0 #[.val (.long x0), .second, .val (.long x1), .second, .val (.int x2), .unset, .unset, .unset, .unset, .unset, .unset, .unset, .unset] [] := by first | (simp [entryFrame, mkF, argsToLocals, Value.category]; done) | rfl
def Q_rm1 (Z : State) (q1 : Int64) (q2 : Int64) (p3 : Int32)  (h0 : Heap) (n0 : Nat) (v : Option Value) (h : Heap) (L : List Loc) : Prop := ∃ b : Addr, v = some (.ref b) ∧ Fr n0 L ∧ Keep h0 h [] ∧ h0.size ≤ b ∧ Exa Z h b "com/example/varese/varese/Interval" ∧ Fld Z h b "com/example/varese/varese/Interval" "start" "J" (.long (own_s q1 q2)) ∧ Fld Z h b "com/example/varese/varese/Interval" "end" "J" (.long (own_e q1 q2 p3))
set_option maxRecDepth 65536 in
set_option maxHeartbeats 40000000 in
theorem rm1 (l : Launch) (Z : State) (a0 : Array Value) (hw : ∀ d ∈ tables_1, d.before a0 Z = true) (ws : List Jvm.Cond) (q1 : Int64) (q2 : Int64) (p3 : Int32)  (h0 : Heap) (n0 : Nat) (Z0 : n0 ≤ h0.size)  :
    MetFree l (⟨"com/example/varese/varese/IntervalEnclosesPinLaw", "mk", "(JJZ)Lcom/example/varese/varese/Interval;"⟩ : MethodName) (head1 (Jvm.Cond.code (⟨"com/example/varese/varese/IntervalEnclosesPinLaw", "mk", "(JJZ)Lcom/example/varese/varese/Interval;"⟩ : MethodName) method_2_code 13 (some (.object "com/example/varese/varese/Interval")) :: ws) ({ frames := 3, cells := 1, slots := 2, locals := 41 } : Room)) (fun a U => a = #[(.long q1), (.long q2), (.int p3)] ∧ Z.Warmed39 U.vm ∧ U.heap = h0) (fun _ _ _ _ _ => True) (fun _ U o U' => ∃ v L, o = .returned v ∧ Q_rm1 Z q1 q2 p3  h0 n0 v U'.heap L ∧ FrameEnd U o U' L ({ frames := 3, cells := 1, slots := 2, locals := 41 } : Room).cells ({ frames := 3, cells := 1, slots := 2, locals := 41 } : Room).slots) := by
  refine MetFree.of_bodySF (plainFor_of_name pn_2) hisR ?_
  intro p e s m args below meth c s₁ Bd hml0 hP hK
  obtain ⟨rfl, hZ, hh⟩ := hP
  have hx := Bd.exec
  have hby := Bd.bytes
  have hml : c.maxLocals = 13 := hml0
  have hown : s.vm.findClass "com/example/varese/varese/IntervalEnclosesPinLaw" = some m.cls := findClass_of_methodNamed Bd.named
  have hnm := (name_of_methodNamed Bd.named Bd.method).1
  have X0 : Stand p l e ({ frames := 3, cells := 1, slots := 2, locals := 41 } : Room) s m #[(.long q1), (.long q2), (.int p3)] below meth c s₁ [] 0 0 := Stand.of_body Bd
  have e0 : s₁.heap = h0 := by rw [← hh, Bd.state]; rfl
  have N0 := Fr.nil n0
  have pre0 : ∀ t, Steps p.tables e below (s₁.setTop (mkF m 0 #[.val (.long q1), .second, .val (.long q2), .second, .val (.int p3), .unset, .unset, .unset, .unset, .unset, .unset, .unset, .unset] [])) t → Steps p.tables e below (s₁.setTop (entryFrame m #[(.long q1), (.long q2), (.int p3)] 13)) t := fun t k => castTop (ef_rm1 m q1 q2 p3) k
  have R0 : ∀ t, Steps p.tables e below (s₁.setTop (mkF m 0 #[.val (.long q1), .second, .val (.long q2), .second, .val (.int p3), .unset, .unset, .unset, .unset, .unset, .unset, .unset, .unset] [])) t → Steps p.tables e below (s₁.setTop (mkF m 0 #[.val (.long q1), .second, .val (.long q2), .second, .val (.int p3), .unset, .unset, .unset, .unset, .unset, .unset, .unset, .unset] [])) t := fun _ k => k
  have R79 : ∀ t, Steps p.tables e below (s₁.setTop (mkF m 18 #[.val (.long q1), .second, .val (.long q2), .second, .val (.int p3), .val (.long (q1 &&& (9223372036854775807 : Int64))), .second, .val (.long (q2 &&& (9223372036854775807 : Int64))), .second, .unset, .unset, .unset, .unset] [(.long (q2 &&& (9223372036854775807 : Int64))), (.long (q1 &&& (9223372036854775807 : Int64)))])) t → Steps p.tables e below (s₁.setTop (mkF m 0 #[.val (.long q1), .second, .val (.long q2), .second, .val (.int p3), .unset, .unset, .unset, .unset, .unset, .unset, .unset, .unset] [])) t := by
    intro t k
    refine R0 t ?_
    refine XS.lloadN X0.here hx rfl (hb hby d1_0) rfl ?_
    refine X0.ldc2Long hx hown (mvT hZ (hw _ (List.mem_of_getElem? (i := 4) rfl))) (g := (mkF m 1 #[.val (.long q1), .second, .val (.long q2), .second, .val (.int p3), .unset, .unset, .unset, .unset, .unset, .unset, .unset, .unset] [(.long q1)])) rfl (hb hby d1_1) _ ?_
    refine XS.land X0.here hx rfl (hb hby d1_4) rfl ?_
    refine XS.lstore X0.here hx rfl (hb hby d1_5) rfl (l' := #[.val (.long q1), .second, .val (.long q2), .second, .val (.int p3), .val (.long (q1 &&& (9223372036854775807 : Int64))), .second, .unset, .unset, .unset, .unset, .unset, .unset]) rfl ?_
    refine XS.lloadN X0.here hx rfl (hb hby d1_7) rfl ?_
    refine X0.ldc2Long hx hown (mvT hZ (hw _ (List.mem_of_getElem? (i := 4) rfl))) (g := (mkF m 8 #[.val (.long q1), .second, .val (.long q2), .second, .val (.int p3), .val (.long (q1 &&& (9223372036854775807 : Int64))), .second, .unset, .unset, .unset, .unset, .unset, .unset] [(.long q2)])) rfl (hb hby d1_8) _ ?_
    refine XS.land X0.here hx rfl (hb hby d1_11) rfl ?_
    refine XS.lstore X0.here hx rfl (hb hby d1_12) rfl (l' := #[.val (.long q1), .second, .val (.long q2), .second, .val (.int p3), .val (.long (q1 &&& (9223372036854775807 : Int64))), .second, .val (.long (q2 &&& (9223372036854775807 : Int64))), .second, .unset, .unset, .unset, .unset]) rfl ?_
    refine XS.lload X0.here hx rfl (hb hby d1_14) rfl ?_
    refine XS.lload X0.here hx rfl (hb hby d1_16) rfl ?_
    exact k
  obtain ⟨_, _, ⟨T80, L80, k80, n80⟩, -, X80, ⟨Lc80, hQ80, l80, y80, z80⟩, st80⟩ := Jvm.LawKit.callS X0 hx (y := (⟨"java/lang/Math", "min", "(JJ)J"⟩ : MethodName)) hown (mvT hZ (hw _ (List.mem_of_getElem? (i := 5) rfl))) (mvT hZ (hw _ (List.mem_of_getElem? (i := 6) rfl))) (mvT hZ (hw _ (List.mem_of_getElem? (i := 7) rfl))) (mvT hZ (hw _ (List.mem_of_getElem? (i := 8) rfl))) (by decide) (backOf (W := 0) (rm2 l Z a0 hw [] (q1 &&& (9223372036854775807 : Int64)) (q2 &&& (9223372036854775807 : Int64))  h0 n0 Z0 ) hZ (hw _ (List.mem_of_getElem? (i := 8) rfl)) (hw _ (List.mem_of_getElem? (i := 7) rfl)) (by decide) (by decide)) (g := (mkF m 18 #[.val (.long q1), .second, .val (.long q2), .second, .val (.int p3), .val (.long (q1 &&& (9223372036854775807 : Int64))), .second, .val (.long (q2 &&& (9223372036854775807 : Int64))), .second, .unset, .unset, .unset, .unset] [(.long (q2 &&& (9223372036854775807 : Int64))), (.long (q1 &&& (9223372036854775807 : Int64)))])) rfl (by rw [hml]; rfl) (argsL := [(.long (q1 &&& (9223372036854775807 : Int64))), (.long (q2 &&& (9223372036854775807 : Int64)))]) (rest := []) (lenOf pd_2 rfl) rfl (by show 2 * 0 + _ ≤ _; exact Nat.le_of_eq rfl) (hb hby d1_18) (fun _ _ => ⟨rfl, e0, (by decide : 0 + 0 ≤ _), (by decide : 0 + 0 ≤ _)⟩)
  dsimp only [Pt.U, Pt.locs, Pt.cells, Pt.slots] at X80 l80 y80 z80 st80 hQ80
  subst l80 y80 z80
  obtain ⟨rfl, M80, e80⟩ := hQ80
  have N80 := Fr.app N0 M80
  have R81 : ∀ t, Steps p.tables e below (T80.setTop (mkF m 21 #[.val (.long q1), .second, .val (.long q2), .second, .val (.int p3), .val (.long (q1 &&& (9223372036854775807 : Int64))), .second, .val (.long (q2 &&& (9223372036854775807 : Int64))), .second, .unset, .unset, .unset, .unset] [(.long (own_s1 q1 q2))])) t → Steps p.tables e below (s₁.setTop (mkF m 0 #[.val (.long q1), .second, .val (.long q2), .second, .val (.int p3), .unset, .unset, .unset, .unset, .unset, .unset, .unset, .unset] [])) t := fun t k => R79 t (st80 _ k)
  have R82 : ∀ t, Steps p.tables e below (T80.setTop (mkF m 27 #[.val (.long q1), .second, .val (.long q2), .second, .val (.int p3), .val (.long (q1 &&& (9223372036854775807 : Int64))), .second, .val (.long (q2 &&& (9223372036854775807 : Int64))), .second, .val (.long (own_s1 q1 q2)), .second, .unset, .unset] [(.long (q2 &&& (9223372036854775807 : Int64))), (.long (q1 &&& (9223372036854775807 : Int64)))])) t → Steps p.tables e below (s₁.setTop (mkF m 0 #[.val (.long q1), .second, .val (.long q2), .second, .val (.int p3), .unset, .unset, .unset, .unset, .unset, .unset, .unset, .unset] [])) t := by
    intro t k
    refine R81 t ?_
    refine XS.lstore X80.here hx rfl (hb hby d1_21) rfl (l' := #[.val (.long q1), .second, .val (.long q2), .second, .val (.int p3), .val (.long (q1 &&& (9223372036854775807 : Int64))), .second, .val (.long (q2 &&& (9223372036854775807 : Int64))), .second, .val (.long (own_s1 q1 q2)), .second, .unset, .unset]) rfl ?_
    refine XS.lload X80.here hx rfl (hb hby d1_23) rfl ?_
    refine XS.lload X80.here hx rfl (hb hby d1_25) rfl ?_
    exact k
  obtain ⟨_, _, ⟨T83, L83, k83, n83⟩, -, X83, ⟨Lc83, hQ83, l83, y83, z83⟩, st83⟩ := Jvm.LawKit.callS X80 hx (y := (⟨"java/lang/Math", "max", "(JJ)J"⟩ : MethodName)) hown (mvT hZ (hw _ (List.mem_of_getElem? (i := 9) rfl))) (mvT hZ (hw _ (List.mem_of_getElem? (i := 10) rfl))) (mvT hZ (hw _ (List.mem_of_getElem? (i := 7) rfl))) (mvT hZ (hw _ (List.mem_of_getElem? (i := 11) rfl))) (by decide) (backOf (W := 0) (rm3 l Z a0 hw [] (q1 &&& (9223372036854775807 : Int64)) (q2 &&& (9223372036854775807 : Int64))  h0 n0 Z0 ) hZ (hw _ (List.mem_of_getElem? (i := 11) rfl)) (hw _ (List.mem_of_getElem? (i := 7) rfl)) (by decide) (by decide)) (g := (mkF m 27 #[.val (.long q1), .second, .val (.long q2), .second, .val (.int p3), .val (.long (q1 &&& (9223372036854775807 : Int64))), .second, .val (.long (q2 &&& (9223372036854775807 : Int64))), .second, .val (.long (own_s1 q1 q2)), .second, .unset, .unset] [(.long (q2 &&& (9223372036854775807 : Int64))), (.long (q1 &&& (9223372036854775807 : Int64)))])) rfl (by rw [hml]; rfl) (argsL := [(.long (q1 &&& (9223372036854775807 : Int64))), (.long (q2 &&& (9223372036854775807 : Int64)))]) (rest := []) (lenOf pd_2 rfl) rfl (by show 2 * 0 + _ ≤ _; exact Nat.le_of_eq rfl) (hb hby d1_27) (fun _ _ => ⟨rfl, e80, (by decide : 0 + 0 ≤ _), (by decide : 0 + 0 ≤ _)⟩)
  dsimp only [Pt.U, Pt.locs, Pt.cells, Pt.slots] at X83 l83 y83 z83 st83 hQ83
  subst l83 y83 z83
  obtain ⟨rfl, M83, e83⟩ := hQ83
  have N83 := Fr.app N80 M83
  have R84 : ∀ t, Steps p.tables e below (T83.setTop (mkF m 30 #[.val (.long q1), .second, .val (.long q2), .second, .val (.int p3), .val (.long (q1 &&& (9223372036854775807 : Int64))), .second, .val (.long (q2 &&& (9223372036854775807 : Int64))), .second, .val (.long (own_s1 q1 q2)), .second, .unset, .unset] [(.long (own_e1 q1 q2))])) t → Steps p.tables e below (s₁.setTop (mkF m 0 #[.val (.long q1), .second, .val (.long q2), .second, .val (.int p3), .unset, .unset, .unset, .unset, .unset, .unset, .unset, .unset] [])) t := fun t k => R82 t (st83 _ k)
  have R85 : ∀ t, Steps p.tables e below (T83.setTop (mkF m 38 #[.val (.long q1), .second, .val (.long q2), .second, .val (.int p3), .val (.long (q1 &&& (9223372036854775807 : Int64))), .second, .val (.long (q2 &&& (9223372036854775807 : Int64))), .second, .val (.long (own_s1 q1 q2)), .second, .val (.long (own_e1 q1 q2)), .second] [(.int (lcmpW (own_s1 q1 q2) (9223372036854775807 : Int64)))])) t → Steps p.tables e below (s₁.setTop (mkF m 0 #[.val (.long q1), .second, .val (.long q2), .second, .val (.int p3), .unset, .unset, .unset, .unset, .unset, .unset, .unset, .unset] [])) t := by
    intro t k
    refine R84 t ?_
    refine XS.lstore X83.here hx rfl (hb hby d1_30) rfl (l' := #[.val (.long q1), .second, .val (.long q2), .second, .val (.int p3), .val (.long (q1 &&& (9223372036854775807 : Int64))), .second, .val (.long (q2 &&& (9223372036854775807 : Int64))), .second, .val (.long (own_s1 q1 q2)), .second, .val (.long (own_e1 q1 q2)), .second]) rfl ?_
    refine XS.lload X83.here hx rfl (hb hby d1_32) rfl ?_
    refine X83.ldc2Long hx hown (mvT hZ (hw _ (List.mem_of_getElem? (i := 4) rfl))) (g := (mkF m 34 #[.val (.long q1), .second, .val (.long q2), .second, .val (.int p3), .val (.long (q1 &&& (9223372036854775807 : Int64))), .second, .val (.long (q2 &&& (9223372036854775807 : Int64))), .second, .val (.long (own_s1 q1 q2)), .second, .val (.long (own_e1 q1 q2)), .second] [(.long (own_s1 q1 q2))])) rfl (hb hby d1_34) _ ?_
    refine XS.lcmp X83.here hx rfl (hb hby d1_37) rfl ?_
    exact k
  have R86 : ∀ t, Steps p.tables e below (T83.setTop (mkF m 46 #[.val (.long q1), .second, .val (.long q2), .second, .val (.int p3), .val (.long (q1 &&& (9223372036854775807 : Int64))), .second, .val (.long (q2 &&& (9223372036854775807 : Int64))), .second, .val (.long (own_s q1 q2)), .second, .val (.long (own_e1 q1 q2)), .second] [])) t → Steps p.tables e below (s₁.setTop (mkF m 0 #[.val (.long q1), .second, .val (.long q2), .second, .val (.int p3), .unset, .unset, .unset, .unset, .unset, .unset, .unset, .unset] [])) t := by
    intro t k
    by_cases hc : own_s1 q1 q2 = (9223372036854775807 : Int64)
    · rw [show own_s q1 q2 = (9223372036854775806 : Int64) from if_pos hc] at k
      have R87 : ∀ t, Steps p.tables e below (T83.setTop (mkF m 41 #[.val (.long q1), .second, .val (.long q2), .second, .val (.int p3), .val (.long (q1 &&& (9223372036854775807 : Int64))), .second, .val (.long (q2 &&& (9223372036854775807 : Int64))), .second, .val (.long (own_s1 q1 q2)), .second, .val (.long (own_e1 q1 q2)), .second] [])) t → Steps p.tables e below (s₁.setTop (mkF m 0 #[.val (.long q1), .second, .val (.long q2), .second, .val (.int p3), .unset, .unset, .unset, .unset, .unset, .unset, .unset, .unset] [])) t := by
        intro t k
        refine R85 t ?_
        refine XS.ifNo X83.here hx rfl (hb hby d1_38) rfl ((if0 _ _).trans (teq ((lw_eq _ _).mpr hc)).2) ?_
        exact k
      have R88 : ∀ t, Steps p.tables e below (T83.setTop (mkF m 46 #[.val (.long q1), .second, .val (.long q2), .second, .val (.int p3), .val (.long (q1 &&& (9223372036854775807 : Int64))), .second, .val (.long (q2 &&& (9223372036854775807 : Int64))), .second, .val (.long (9223372036854775806 : Int64)), .second, .val (.long (own_e1 q1 q2)), .second] [])) t → Steps p.tables e below (s₁.setTop (mkF m 0 #[.val (.long q1), .second, .val (.long q2), .second, .val (.int p3), .unset, .unset, .unset, .unset, .unset, .unset, .unset, .unset] [])) t := by
        intro t k
        refine R87 t ?_
        refine X83.ldc2Long hx hown (mvT hZ (hw _ (List.mem_of_getElem? (i := 49) rfl))) (g := (mkF m 41 #[.val (.long q1), .second, .val (.long q2), .second, .val (.int p3), .val (.long (q1 &&& (9223372036854775807 : Int64))), .second, .val (.long (q2 &&& (9223372036854775807 : Int64))), .second, .val (.long (own_s1 q1 q2)), .second, .val (.long (own_e1 q1 q2)), .second] [])) rfl (hb hby d1_41) _ ?_
        refine XS.lstore X83.here hx rfl (hb hby d1_44) rfl (l' := #[.val (.long q1), .second, .val (.long q2), .second, .val (.int p3), .val (.long (q1 &&& (9223372036854775807 : Int64))), .second, .val (.long (q2 &&& (9223372036854775807 : Int64))), .second, .val (.long (9223372036854775806 : Int64)), .second, .val (.long (own_e1 q1 q2)), .second]) rfl ?_
        exact k
      exact R88 t k
    · rw [show own_s q1 q2 = own_s1 q1 q2 from if_neg hc] at k
      have R89 : ∀ t, Steps p.tables e below (T83.setTop (mkF m 46 #[.val (.long q1), .second, .val (.long q2), .second, .val (.int p3), .val (.long (q1 &&& (9223372036854775807 : Int64))), .second, .val (.long (q2 &&& (9223372036854775807 : Int64))), .second, .val (.long (own_s1 q1 q2)), .second, .val (.long (own_e1 q1 q2)), .second] [])) t → Steps p.tables e below (s₁.setTop (mkF m 0 #[.val (.long q1), .second, .val (.long q2), .second, .val (.int p3), .unset, .unset, .unset, .unset, .unset, .unset, .unset, .unset] [])) t := by
        intro t k
        refine R85 t ?_
        refine XS.ifYes X83.here hx rfl (pc0 := 38) (pc' := 46) rfl (hb hby d1_38) rfl ((if0 _ _).trans (feq (mt (lw_eq _ _).mp hc)).2) (by decide) (by decide) ?_
        exact k
      exact R89 t k
  have R90 : ∀ t, Steps p.tables e below (T83.setTop (mkF m 48 #[.val (.long q1), .second, .val (.long q2), .second, .val (.int p3), .val (.long (q1 &&& (9223372036854775807 : Int64))), .second, .val (.long (q2 &&& (9223372036854775807 : Int64))), .second, .val (.long (own_s q1 q2)), .second, .val (.long (own_e1 q1 q2)), .second] [(.int p3)])) t → Steps p.tables e below (s₁.setTop (mkF m 0 #[.val (.long q1), .second, .val (.long q2), .second, .val (.int p3), .unset, .unset, .unset, .unset, .unset, .unset, .unset, .unset] [])) t := by
    intro t k
    refine R86 t ?_
    refine XS.iload X83.here hx rfl (hb hby d1_46) rfl ?_
    exact k
  have R91 : ∀ t, Steps p.tables e below (T83.setTop (mkF m 56 #[.val (.long q1), .second, .val (.long q2), .second, .val (.int p3), .val (.long (q1 &&& (9223372036854775807 : Int64))), .second, .val (.long (q2 &&& (9223372036854775807 : Int64))), .second, .val (.long (own_s q1 q2)), .second, .val (.long (own_e q1 q2 p3)), .second] [])) t → Steps p.tables e below (s₁.setTop (mkF m 0 #[.val (.long q1), .second, .val (.long q2), .second, .val (.int p3), .unset, .unset, .unset, .unset, .unset, .unset, .unset, .unset] [])) t := by
    intro t k
    by_cases hc : p3 = (0 : Int32)
    · rw [show own_e q1 q2 p3 = own_e1 q1 q2 from if_pos hc] at k
      have R92 : ∀ t, Steps p.tables e below (T83.setTop (mkF m 56 #[.val (.long q1), .second, .val (.long q2), .second, .val (.int p3), .val (.long (q1 &&& (9223372036854775807 : Int64))), .second, .val (.long (q2 &&& (9223372036854775807 : Int64))), .second, .val (.long (own_s q1 q2)), .second, .val (.long (own_e1 q1 q2)), .second] [])) t → Steps p.tables e below (s₁.setTop (mkF m 0 #[.val (.long q1), .second, .val (.long q2), .second, .val (.int p3), .unset, .unset, .unset, .unset, .unset, .unset, .unset, .unset] [])) t := by
        intro t k
        refine R90 t ?_
        refine XS.ifYes X83.here hx rfl (pc0 := 48) (pc' := 56) rfl (hb hby d1_48) rfl ((if0 _ _).trans (teq hc).1) (by decide) (by decide) ?_
        exact k
      exact R92 t k
    · rw [show own_e q1 q2 p3 = (9223372036854775807 : Int64) from if_neg hc] at k
      have R93 : ∀ t, Steps p.tables e below (T83.setTop (mkF m 51 #[.val (.long q1), .second, .val (.long q2), .second, .val (.int p3), .val (.long (q1 &&& (9223372036854775807 : Int64))), .second, .val (.long (q2 &&& (9223372036854775807 : Int64))), .second, .val (.long (own_s q1 q2)), .second, .val (.long (own_e1 q1 q2)), .second] [])) t → Steps p.tables e below (s₁.setTop (mkF m 0 #[.val (.long q1), .second, .val (.long q2), .second, .val (.int p3), .unset, .unset, .unset, .unset, .unset, .unset, .unset, .unset] [])) t := by
        intro t k
        refine R90 t ?_
        refine XS.ifNo X83.here hx rfl (hb hby d1_48) rfl ((if0 _ _).trans (feq hc).1) ?_
        exact k
      have R94 : ∀ t, Steps p.tables e below (T83.setTop (mkF m 56 #[.val (.long q1), .second, .val (.long q2), .second, .val (.int p3), .val (.long (q1 &&& (9223372036854775807 : Int64))), .second, .val (.long (q2 &&& (9223372036854775807 : Int64))), .second, .val (.long (own_s q1 q2)), .second, .val (.long (9223372036854775807 : Int64)), .second] [])) t → Steps p.tables e below (s₁.setTop (mkF m 0 #[.val (.long q1), .second, .val (.long q2), .second, .val (.int p3), .unset, .unset, .unset, .unset, .unset, .unset, .unset, .unset] [])) t := by
        intro t k
        refine R93 t ?_
        refine X83.ldc2Long hx hown (mvT hZ (hw _ (List.mem_of_getElem? (i := 4) rfl))) (g := (mkF m 51 #[.val (.long q1), .second, .val (.long q2), .second, .val (.int p3), .val (.long (q1 &&& (9223372036854775807 : Int64))), .second, .val (.long (q2 &&& (9223372036854775807 : Int64))), .second, .val (.long (own_s q1 q2)), .second, .val (.long (own_e1 q1 q2)), .second] [])) rfl (hb hby d1_51) _ ?_
        refine XS.lstore X83.here hx rfl (hb hby d1_54) rfl (l' := #[.val (.long q1), .second, .val (.long q2), .second, .val (.int p3), .val (.long (q1 &&& (9223372036854775807 : Int64))), .second, .val (.long (q2 &&& (9223372036854775807 : Int64))), .second, .val (.long (own_s q1 q2)), .second, .val (.long (9223372036854775807 : Int64)), .second]) rfl ?_
        exact k
      exact R94 t k
  obtain ⟨T95, h95, X95, e95, x95, A95, D95, -, st95⟩ := newO X83 hx hZ hown (hw _ (List.mem_of_getElem? (i := 12) rfl)) (hw _ (List.mem_of_getElem? (i := 13) rfl)) (hw _ (List.mem_of_getElem? (i := 14) rfl)) e83 (g := (mkF m 56 #[.val (.long q1), .second, .val (.long q2), .second, .val (.int p3), .val (.long (q1 &&& (9223372036854775807 : Int64))), .second, .val (.long (q2 &&& (9223372036854775807 : Int64))), .second, .val (.long (own_s q1 q2)), .second, .val (.long (own_e q1 q2 p3)), .second] [])) rfl (hb hby d1_56) (by decide) (by decide)
  obtain ⟨b1, g_b1⟩ : ∃ z, z = h0.size := ⟨_, rfl⟩
  rw [← g_b1] at A95 D95 st95
  have n_b1 : n0 ≤ b1 := Nat.le_trans Z0 (Nat.le_of_eq g_b1.symm)
  have z_b1 : h0.size ≤ b1 := Nat.le_trans (Keep.refl h0 []).1 (Nat.le_of_eq g_b1.symm)
  have Z95 : n0 ≤ h95.size := Nat.le_trans Z0 x95.1
  have K95 : Keep h0 h95 [] := (Keep.refl h0 []).ext x95
  have F_96 : Fld Z h95 b1 "com/example/varese/varese/Interval" "start" "J" (.long (0 : Int64)) := D95 (Or.inr (hw _ (List.mem_of_getElem? (i := 28) rfl))) (ty := .long) (by decide)
  have F_97 : Fld Z h95 b1 "com/example/varese/varese/Interval" "end" "J" (.long (0 : Int64)) := D95 (Or.inr (hw _ (List.mem_of_getElem? (i := 30) rfl))) (ty := .long) (by decide)
  have R98 : ∀ t, Steps p.tables e below (T95.setTop (mkF m 59 #[.val (.long q1), .second, .val (.long q2), .second, .val (.int p3), .val (.long (q1 &&& (9223372036854775807 : Int64))), .second, .val (.long (q2 &&& (9223372036854775807 : Int64))), .second, .val (.long (own_s q1 q2)), .second, .val (.long (own_e q1 q2 p3)), .second] [(.ref b1)])) t → Steps p.tables e below (s₁.setTop (mkF m 0 #[.val (.long q1), .second, .val (.long q2), .second, .val (.int p3), .unset, .unset, .unset, .unset, .unset, .unset, .unset, .unset] [])) t := fun t k => R91 t (st95 _ k)
  have R99 : ∀ t, Steps p.tables e below (T95.setTop (mkF m 64 #[.val (.long q1), .second, .val (.long q2), .second, .val (.int p3), .val (.long (q1 &&& (9223372036854775807 : Int64))), .second, .val (.long (q2 &&& (9223372036854775807 : Int64))), .second, .val (.long (own_s q1 q2)), .second, .val (.long (own_e q1 q2 p3)), .second] [(.long (own_e q1 q2 p3)), (.long (own_s q1 q2)), (.ref b1), (.ref b1)])) t → Steps p.tables e below (s₁.setTop (mkF m 0 #[.val (.long q1), .second, .val (.long q2), .second, .val (.int p3), .unset, .unset, .unset, .unset, .unset, .unset, .unset, .unset] [])) t := by
    intro t k
    refine R98 t ?_
    refine XS.dup X95.here hx rfl (hb hby d1_59) rfl rfl ?_
    refine XS.lload X95.here hx rfl (hb hby d1_60) rfl ?_
    refine XS.lload X95.here hx rfl (hb hby d1_62) rfl ?_
    exact k
  obtain ⟨_, _, ⟨T100, L100, k100, n100⟩, -, X100, ⟨Lc100, hQ100, l100, y100, z100⟩, st100⟩ := X95.specialBack hx (y := (⟨"com/example/varese/varese/Interval", "<init>", "(JJ)V"⟩ : MethodName)) rfl hown (mvT hZ (hw _ (List.mem_of_getElem? (i := 15) rfl))) (mvT hZ (hw _ (List.mem_of_getElem? (i := 16) rfl))) (mvT hZ (hw _ (List.mem_of_getElem? (i := 17) rfl))) (by decide) (backOf (W := 1) (rm4 l Z a0 hw [] b1 (own_s q1 q2) (own_e q1 q2 p3) (.long (0 : Int64)) (.long (0 : Int64)) h95 n0 Z95 A95 F_96 F_97 n_b1 (own_s_nn q1 q2) (own_s_nm q1 q2) (own_se q1 q2 p3)) hZ (hw _ (List.mem_of_getElem? (i := 17) rfl)) (hw _ (List.mem_of_getElem? (i := 14) rfl)) (by decide) (by decide)) (g := (mkF m 64 #[.val (.long q1), .second, .val (.long q2), .second, .val (.int p3), .val (.long (q1 &&& (9223372036854775807 : Int64))), .second, .val (.long (q2 &&& (9223372036854775807 : Int64))), .second, .val (.long (own_s q1 q2)), .second, .val (.long (own_e q1 q2 p3)), .second] [(.long (own_e q1 q2 p3)), (.long (own_s q1 q2)), (.ref b1), (.ref b1)])) rfl (by rw [hml]; rfl) (Steps.refl _) (a := b1) (argsL := [(.long (own_s q1 q2)), (.long (own_e q1 q2 p3))]) (rest := [(.ref b1)]) (lenOf pd_3 rfl) rfl (by show 2 * 0 + _ ≤ _; exact Nat.le_of_eq rfl) (hb hby d1_64) (fun _ _ => ⟨rfl, e95, (by decide : 1 + 0 ≤ _), (by decide : 2 + 0 ≤ _)⟩)
  dsimp only [Pt.U, Pt.locs, Pt.cells, Pt.slots] at X100 l100 y100 z100 st100 hQ100
  subst l100 y100 z100
  obtain ⟨rfl, M100, J100, Fa100, Fb100⟩ := hQ100
  have Z100 : n0 ≤ T100.heap.size := Nat.le_trans Z95 J100.1
  have K100 : Keep h0 T100.heap [] := K95.trans J100 (allS (Or.inr z_b1) all0)
  have E_101 : Exa Z T100.heap b1 "com/example/varese/varese/Interval" := A95.keep J100
  have N100 := Fr.app N83 M100
  have R102 : ∀ t, Steps p.tables e below (T100.setTop (mkF m 67 #[.val (.long q1), .second, .val (.long q2), .second, .val (.int p3), .val (.long (q1 &&& (9223372036854775807 : Int64))), .second, .val (.long (q2 &&& (9223372036854775807 : Int64))), .second, .val (.long (own_s q1 q2)), .second, .val (.long (own_e q1 q2 p3)), .second] [(.ref b1)])) t → Steps p.tables e below (s₁.setTop (mkF m 0 #[.val (.long q1), .second, .val (.long q2), .second, .val (.int p3), .unset, .unset, .unset, .unset, .unset, .unset, .unset, .unset] [])) t := fun t k => R99 t (st100.trans k)
  obtain ⟨fs, hr, hrun, hended, hW, hsame⟩ := X100.leave (v := some (.ref b1)) (fun h => by rw [Bd.returns] at h; cases h)
  refine ⟨_, _, pre0 _ (R102 _ (retOut X100 hx (t := (.object "com/example/varese/varese/Interval")) Bd.returns rfl (Or.inr (Or.inr (Or.inr (Or.inr ⟨rfl, rfl, rfl⟩)))) (hb hby d1_67) hr)), hrun, hended, _, _, rfl, ?_, ⟨_, rfl⟩, hW, hsame.mono (by decide) (by decide)⟩
  show Q_rm1 Z q1 q2 p3  h0 n0 _ T100.heap _
  exact ⟨_, rfl, N100, K100, z_b1, E_101, Fa100, Fb100⟩
theorem pd_4 : parseMethodDescriptor "(JJZ)Lcom/example/varese/varese/Interval;" = some ⟨[.long, .long, .boolean], some (.object "com/example/varese/varese/Interval")⟩ := by decide +kernel
theorem pd_5 : parseMethodDescriptor "(Lcom/example/varese/varese/Interval;)Z" = some ⟨[(.object "com/example/varese/varese/Interval")], some .boolean⟩ := by decide +kernel
theorem pd_6 : parseMethodDescriptor "(Lcom/example/varese/varese/Interval;J)Z" = some ⟨[(.object "com/example/varese/varese/Interval"), .long], some .boolean⟩ := by decide +kernel
theorem ef_rm0 (m : MethodId) (x0 : Int64) (x1 : Int64) (x2 : Int64) (x3 : Int64) (x4 : Int64) (x5 : Int32) : entryFrame m #[(.long x0), (.long x1), (.long x2), (.long x3), (.long x4), (.int x5)] maxLocals = mkF m 0 #[.val (.long x0), .second, .val (.long x1), .second, .val (.long x2), .second, .val (.long x3), .second, .val (.long x4), .second, .val (.int x5), .unset, .unset, .unset, .unset, .unset, .unset, .unset, .unset, .unset] [] := by first | (simp [entryFrame, mkF, argsToLocals, Value.category, maxLocals]; done) | rfl
def Q_rm0 (Z : State) (q1 : Int64) (q2 : Int64) (q3 : Int64) (q4 : Int64) (q5 : Int64) (p6 : Int32)  (h0 : Heap) (n0 : Nat) (v : Option Value) (h : Heap) (L : List Loc) : Prop := v = some (.int (1 : Int32)) ∧ Fr n0 L
set_option maxRecDepth 65536 in
set_option maxHeartbeats 40000000 in
theorem rm0 (l : Launch) (Z : State) (a0 : Array Value) (hw : ∀ d ∈ tables_1, d.before a0 Z = true) (ws : List Jvm.Cond) (q1 : Int64) (q2 : Int64) (q3 : Int64) (q4 : Int64) (q5 : Int64) (p6 : Int32)  (h0 : Heap) (n0 : Nat) (Z0 : n0 ≤ h0.size)  :
    MetFree l x (head1 (Jvm.Cond.code x code maxLocals ret :: ws) room_1) (fun a U => a = #[(.long q1), (.long q2), (.long q3), (.long q4), (.long q5), (.int p6)] ∧ Z.Warmed39 U.vm ∧ U.heap = h0) (fun _ _ _ _ _ => True) (fun _ U o U' => ∃ v L, o = .returned v ∧ Q_rm0 Z q1 q2 q3 q4 q5 p6  h0 n0 v U'.heap L ∧ FrameEnd U o U' L room_1.cells room_1.slots) := by
  refine MetFree.of_bodySF (plainFor_of_name pn_2) hisR ?_
  intro p e s m args below meth c s₁ Bd hml0 hP hK
  obtain ⟨rfl, hZ, hh⟩ := hP
  have hx := Bd.exec
  have hby := Bd.bytes
  have hml : c.maxLocals = 20 := hml0
  have hown : s.vm.findClass "com/example/varese/varese/IntervalEnclosesPinLaw" = some m.cls := findClass_of_methodNamed Bd.named
  have hnm := (name_of_methodNamed Bd.named Bd.method).1
  have X0 : Stand p l e room_1 s m #[(.long q1), (.long q2), (.long q3), (.long q4), (.long q5), (.int p6)] below meth c s₁ [] 0 0 := Stand.of_body Bd
  have e0 : s₁.heap = h0 := by rw [← hh, Bd.state]; rfl
  have N0 := Fr.nil n0
  have pre0 : ∀ t, Steps p.tables e below (s₁.setTop (mkF m 0 #[.val (.long q1), .second, .val (.long q2), .second, .val (.long q3), .second, .val (.long q4), .second, .val (.long q5), .second, .val (.int p6), .unset, .unset, .unset, .unset, .unset, .unset, .unset, .unset, .unset] [])) t → Steps p.tables e below (s₁.setTop (entryFrame m #[(.long q1), (.long q2), (.long q3), (.long q4), (.long q5), (.int p6)] maxLocals)) t := fun t k => castTop (ef_rm0 m q1 q2 q3 q4 q5 p6) k
  have R0 : ∀ t, Steps p.tables e below (s₁.setTop (mkF m 0 #[.val (.long q1), .second, .val (.long q2), .second, .val (.long q3), .second, .val (.long q4), .second, .val (.long q5), .second, .val (.int p6), .unset, .unset, .unset, .unset, .unset, .unset, .unset, .unset, .unset] [])) t → Steps p.tables e below (s₁.setTop (mkF m 0 #[.val (.long q1), .second, .val (.long q2), .second, .val (.long q3), .second, .val (.long q4), .second, .val (.long q5), .second, .val (.int p6), .unset, .unset, .unset, .unset, .unset, .unset, .unset, .unset, .unset] [])) t := fun _ k => k
  have R103 : ∀ t, Steps p.tables e below (s₁.setTop (mkF m 6 #[.val (.long q1), .second, .val (.long q2), .second, .val (.long q3), .second, .val (.long q4), .second, .val (.long q5), .second, .val (.int p6), .unset, .unset, .unset, .unset, .unset, .unset, .unset, .unset, .unset] [(.int (p6 &&& (1 : Int32))), (.long q2), (.long q1)])) t → Steps p.tables e below (s₁.setTop (mkF m 0 #[.val (.long q1), .second, .val (.long q2), .second, .val (.long q3), .second, .val (.long q4), .second, .val (.long q5), .second, .val (.int p6), .unset, .unset, .unset, .unset, .unset, .unset, .unset, .unset, .unset] [])) t := by
    intro t k
    refine R0 t ?_
    refine XS.lloadN X0.here hx rfl (hb hby at_0) rfl ?_
    refine XS.lloadN X0.here hx rfl (hb hby at_1) rfl ?_
    refine XS.iload X0.here hx rfl (hb hby at_2) rfl ?_
    refine XS.iconst X0.here hx rfl (hb hby at_4) ?_
    refine XS.iand X0.here hx rfl (hb hby at_5) rfl ?_
    exact k
  have R104 : ∀ t, Steps p.tables e below (s₁.setTop (mkF m 14 #[.val (.long q1), .second, .val (.long q2), .second, .val (.long q3), .second, .val (.long q4), .second, .val (.long q5), .second, .val (.int p6), .unset, .unset, .unset, .unset, .unset, .unset, .unset, .unset, .unset] [(.int (own_fl (p6 &&& (1 : Int32)))), (.long q2), (.long q1)])) t → Steps p.tables e below (s₁.setTop (mkF m 0 #[.val (.long q1), .second, .val (.long q2), .second, .val (.long q3), .second, .val (.long q4), .second, .val (.long q5), .second, .val (.int p6), .unset, .unset, .unset, .unset, .unset, .unset, .unset, .unset, .unset] [])) t := by
    intro t k
    by_cases hc : (p6 &&& (1 : Int32)) = (0 : Int32)
    · rw [show own_fl (p6 &&& (1 : Int32)) = 0 from if_pos hc] at k
      have R105 : ∀ t, Steps p.tables e below (s₁.setTop (mkF m 13 #[.val (.long q1), .second, .val (.long q2), .second, .val (.long q3), .second, .val (.long q4), .second, .val (.long q5), .second, .val (.int p6), .unset, .unset, .unset, .unset, .unset, .unset, .unset, .unset, .unset] [(.long q2), (.long q1)])) t → Steps p.tables e below (s₁.setTop (mkF m 0 #[.val (.long q1), .second, .val (.long q2), .second, .val (.long q3), .second, .val (.long q4), .second, .val (.long q5), .second, .val (.int p6), .unset, .unset, .unset, .unset, .unset, .unset, .unset, .unset, .unset] [])) t := by
        intro t k
        refine R103 t ?_
        refine XS.ifYes X0.here hx rfl (pc0 := 6) (pc' := 13) rfl (hb hby at_6) rfl ((if0 _ _).trans (teq hc).1) (by decide) (by decide) ?_
        exact k
      have R106 : ∀ t, Steps p.tables e below (s₁.setTop (mkF m 14 #[.val (.long q1), .second, .val (.long q2), .second, .val (.long q3), .second, .val (.long q4), .second, .val (.long q5), .second, .val (.int p6), .unset, .unset, .unset, .unset, .unset, .unset, .unset, .unset, .unset] [(.int (0 : Int32)), (.long q2), (.long q1)])) t → Steps p.tables e below (s₁.setTop (mkF m 0 #[.val (.long q1), .second, .val (.long q2), .second, .val (.long q3), .second, .val (.long q4), .second, .val (.long q5), .second, .val (.int p6), .unset, .unset, .unset, .unset, .unset, .unset, .unset, .unset, .unset] [])) t := by
        intro t k
        refine R105 t ?_
        refine XS.iconst X0.here hx rfl (hb hby at_13) ?_
        exact k
      exact R106 t k
    · rw [show own_fl (p6 &&& (1 : Int32)) = 1 from if_neg hc] at k
      have R107 : ∀ t, Steps p.tables e below (s₁.setTop (mkF m 9 #[.val (.long q1), .second, .val (.long q2), .second, .val (.long q3), .second, .val (.long q4), .second, .val (.long q5), .second, .val (.int p6), .unset, .unset, .unset, .unset, .unset, .unset, .unset, .unset, .unset] [(.long q2), (.long q1)])) t → Steps p.tables e below (s₁.setTop (mkF m 0 #[.val (.long q1), .second, .val (.long q2), .second, .val (.long q3), .second, .val (.long q4), .second, .val (.long q5), .second, .val (.int p6), .unset, .unset, .unset, .unset, .unset, .unset, .unset, .unset, .unset] [])) t := by
        intro t k
        refine R103 t ?_
        refine XS.ifNo X0.here hx rfl (hb hby at_6) rfl ((if0 _ _).trans (feq hc).1) ?_
        exact k
      have R108 : ∀ t, Steps p.tables e below (s₁.setTop (mkF m 14 #[.val (.long q1), .second, .val (.long q2), .second, .val (.long q3), .second, .val (.long q4), .second, .val (.long q5), .second, .val (.int p6), .unset, .unset, .unset, .unset, .unset, .unset, .unset, .unset, .unset] [(.int (1 : Int32)), (.long q2), (.long q1)])) t → Steps p.tables e below (s₁.setTop (mkF m 0 #[.val (.long q1), .second, .val (.long q2), .second, .val (.long q3), .second, .val (.long q4), .second, .val (.long q5), .second, .val (.int p6), .unset, .unset, .unset, .unset, .unset, .unset, .unset, .unset, .unset] [])) t := by
        intro t k
        refine R107 t ?_
        refine XS.iconst X0.here hx rfl (hb hby at_9) ?_
        refine XS.goto X0.here hx rfl (pc0 := 10) (pc' := 14) rfl (hb hby at_10) (by decide) (by decide) ?_
        exact k
      exact R108 t k
  obtain ⟨_, _, ⟨T109, L109, k109, n109⟩, -, X109, ⟨Lc109, hQ109, l109, y109, z109⟩, st109⟩ := Jvm.LawKit.callS X0 hx (y := (⟨"com/example/varese/varese/IntervalEnclosesPinLaw", "mk", "(JJZ)Lcom/example/varese/varese/Interval;"⟩ : MethodName)) hown (mvT hZ (hw _ (List.mem_of_getElem? (i := 0) rfl))) (mvT hZ (hw _ (List.mem_of_getElem? (i := 1) rfl))) (mvT hZ (hw _ (List.mem_of_getElem? (i := 2) rfl))) (mvT hZ (hw _ (List.mem_of_getElem? (i := 3) rfl))) (by decide) (backOf (W := 0) (rm1 l Z a0 hw [] q1 q2 (own_fl (p6 &&& (1 : Int32)))  h0 n0 Z0 ) hZ (hw _ (List.mem_of_getElem? (i := 3) rfl)) (hw _ (List.mem_of_getElem? (i := 2) rfl)) (by decide) (by decide)) (g := (mkF m 14 #[.val (.long q1), .second, .val (.long q2), .second, .val (.long q3), .second, .val (.long q4), .second, .val (.long q5), .second, .val (.int p6), .unset, .unset, .unset, .unset, .unset, .unset, .unset, .unset, .unset] [(.int (own_fl (p6 &&& (1 : Int32)))), (.long q2), (.long q1)])) rfl (by rw [hml]; rfl) (argsL := [(.long q1), (.long q2), (.int (own_fl (p6 &&& (1 : Int32))))]) (rest := []) (lenOf pd_4 rfl) rfl (by show 2 * 0 + _ ≤ _; exact Nat.le_of_eq rfl) (hb hby at_14) (fun _ _ => ⟨rfl, e0, (by decide : 0 + 1 ≤ _), (by decide : 0 + 2 ≤ _)⟩)
  dsimp only [Pt.U, Pt.locs, Pt.cells, Pt.slots] at X109 l109 y109 z109 st109 hQ109
  subst l109 y109 z109
  obtain ⟨b1, rfl, M109, J109, zf109, Eo109, Fa109, Fb109⟩ := hQ109
  have Z109 : n0 ≤ T109.heap.size := Nat.le_trans Z0 J109.1
  have n_b1 : n0 ≤ b1 := Nat.le_trans Z0 zf109
  have N109 := Fr.app N0 M109
  have R110 : ∀ t, Steps p.tables e below (T109.setTop (mkF m 17 #[.val (.long q1), .second, .val (.long q2), .second, .val (.long q3), .second, .val (.long q4), .second, .val (.long q5), .second, .val (.int p6), .unset, .unset, .unset, .unset, .unset, .unset, .unset, .unset, .unset] [(.ref b1)])) t → Steps p.tables e below (s₁.setTop (mkF m 0 #[.val (.long q1), .second, .val (.long q2), .second, .val (.long q3), .second, .val (.long q4), .second, .val (.long q5), .second, .val (.int p6), .unset, .unset, .unset, .unset, .unset, .unset, .unset, .unset, .unset] [])) t := fun t k => R104 t (st109 _ k)
  have R111 : ∀ t, Steps p.tables e below (T109.setTop (mkF m 27 #[.val (.long q1), .second, .val (.long q2), .second, .val (.long q3), .second, .val (.long q4), .second, .val (.long q5), .second, .val (.int p6), .val (.ref b1), .val (.long q3), .second, .unset, .unset, .unset, .unset, .unset, .unset] [(.int (p6 &&& (2 : Int32)))])) t → Steps p.tables e below (s₁.setTop (mkF m 0 #[.val (.long q1), .second, .val (.long q2), .second, .val (.long q3), .second, .val (.long q4), .second, .val (.long q5), .second, .val (.int p6), .unset, .unset, .unset, .unset, .unset, .unset, .unset, .unset, .unset] [])) t := by
    intro t k
    refine R110 t ?_
    refine XS.astore X109.here hx rfl (hb hby at_17) rfl rfl (l' := #[.val (.long q1), .second, .val (.long q2), .second, .val (.long q3), .second, .val (.long q4), .second, .val (.long q5), .second, .val (.int p6), .val (.ref b1), .unset, .unset, .unset, .unset, .unset, .unset, .unset, .unset]) rfl ?_
    refine XS.lload X109.here hx rfl (hb hby at_19) rfl ?_
    refine XS.lstore X109.here hx rfl (hb hby at_21) rfl (l' := #[.val (.long q1), .second, .val (.long q2), .second, .val (.long q3), .second, .val (.long q4), .second, .val (.long q5), .second, .val (.int p6), .val (.ref b1), .val (.long q3), .second, .unset, .unset, .unset, .unset, .unset, .unset]) rfl ?_
    refine XS.iload X109.here hx rfl (hb hby at_23) rfl ?_
    refine XS.iconst X109.here hx rfl (hb hby at_25) ?_
    refine XS.iand X109.here hx rfl (hb hby at_26) rfl ?_
    exact k
  obtain ⟨T112, L112, X112, N112, e112, R112⟩ : ∃ (T' : State) (L' : List Loc), Stand p l e room_1 s m #[(.long q1), (.long q2), (.long q3), (.long q4), (.long q5), (.int p6)] below meth c T' L' 1 2 ∧ Fr n0 L' ∧ T'.heap = T109.heap ∧ (∀ t, Steps p.tables e below (T'.setTop (mkF m 47 #[.val (.long q1), .second, .val (.long q2), .second, .val (.long q3), .second, .val (.long q4), .second, .val (.long q5), .second, .val (.int p6), .val (.ref b1), .val (.long (own_mv (p6 &&& (2 : Int32)) q3 ((own_s q1 q2) + ((((((p6).toUInt32 >>> ((2 : Int32) &&& 31).toUInt32).toInt32) &&& (3 : Int32)) - (1 : Int32))).toInt64))), .second, .unset, .unset, .unset, .unset, .unset, .unset] [])) t → Steps p.tables e below (s₁.setTop (mkF m 0 #[.val (.long q1), .second, .val (.long q2), .second, .val (.long q3), .second, .val (.long q4), .second, .val (.long q5), .second, .val (.int p6), .unset, .unset, .unset, .unset, .unset, .unset, .unset, .unset, .unset] [])) t) := by
    by_cases hc : (p6 &&& (2 : Int32)) = (0 : Int32)
    · have R113 : ∀ t, Steps p.tables e below (T109.setTop (mkF m 47 #[.val (.long q1), .second, .val (.long q2), .second, .val (.long q3), .second, .val (.long q4), .second, .val (.long q5), .second, .val (.int p6), .val (.ref b1), .val (.long q3), .second, .unset, .unset, .unset, .unset, .unset, .unset] [])) t → Steps p.tables e below (s₁.setTop (mkF m 0 #[.val (.long q1), .second, .val (.long q2), .second, .val (.long q3), .second, .val (.long q4), .second, .val (.long q5), .second, .val (.int p6), .unset, .unset, .unset, .unset, .unset, .unset, .unset, .unset, .unset] [])) t := by
        intro t k
        refine R111 t ?_
        refine XS.ifYes X109.here hx rfl (pc0 := 27) (pc' := 47) rfl (hb hby at_27) rfl ((if0 _ _).trans (teq hc).1) (by decide) (by decide) ?_
        exact k
      rw [show own_mv (p6 &&& (2 : Int32)) q3 ((own_s q1 q2) + ((((((p6).toUInt32 >>> ((2 : Int32) &&& 31).toUInt32).toInt32) &&& (3 : Int32)) - (1 : Int32))).toInt64) = q3 from if_pos hc]
      exact ⟨_, _, X109, N109, rfl, R113⟩
    · have R114 : ∀ t, Steps p.tables e below (T109.setTop (mkF m 30 #[.val (.long q1), .second, .val (.long q2), .second, .val (.long q3), .second, .val (.long q4), .second, .val (.long q5), .second, .val (.int p6), .val (.ref b1), .val (.long q3), .second, .unset, .unset, .unset, .unset, .unset, .unset] [])) t → Steps p.tables e below (s₁.setTop (mkF m 0 #[.val (.long q1), .second, .val (.long q2), .second, .val (.long q3), .second, .val (.long q4), .second, .val (.long q5), .second, .val (.int p6), .unset, .unset, .unset, .unset, .unset, .unset, .unset, .unset, .unset] [])) t := by
        intro t k
        refine R111 t ?_
        refine XS.ifNo X109.here hx rfl (hb hby at_27) rfl ((if0 _ _).trans (feq hc).1) ?_
        exact k
      have R115 : ∀ t, Steps p.tables e below (T109.setTop (mkF m 32 #[.val (.long q1), .second, .val (.long q2), .second, .val (.long q3), .second, .val (.long q4), .second, .val (.long q5), .second, .val (.int p6), .val (.ref b1), .val (.long q3), .second, .unset, .unset, .unset, .unset, .unset, .unset] [(.ref b1)])) t → Steps p.tables e below (s₁.setTop (mkF m 0 #[.val (.long q1), .second, .val (.long q2), .second, .val (.long q3), .second, .val (.long q4), .second, .val (.long q5), .second, .val (.int p6), .unset, .unset, .unset, .unset, .unset, .unset, .unset, .unset, .unset] [])) t := by
        intro t k
        refine R114 t ?_
        refine XS.aload X109.here hx rfl (hb hby at_30) rfl rfl ?_
        exact k
      obtain ⟨_, _, q117a, q117b, q117c⟩ := isOf hZ rfl Eo109
      obtain ⟨_, _, ⟨T116, L116, k116, n116⟩, -, X116, ⟨Lc116, hQ116, l116, y116, z116⟩, st116⟩ := X109.virtualBack hx (y := (⟨"com/example/varese/varese/Interval", "start", "()J"⟩ : MethodName)) (z := (⟨"com/example/varese/varese/Interval", "start", "()J"⟩ : MethodName)) hown (mvT hZ (hw _ (List.mem_of_getElem? (i := 31) rfl))) (mvT hZ (hw _ (List.mem_of_getElem? (i := 32) rfl))) (notFace_of_selects (args := #[]) (mvT hZ (hw _ (List.mem_of_getElem? (i := 34) rfl)))) (mvT hZ (hw _ (List.mem_of_getElem? (i := 34) rfl))) (mvT hZ (hw _ (List.mem_of_getElem? (i := 33) rfl))) (by decide) (backOf (W := 0) (rm7 l Z a0 hw [] b1 (own_s q1 q2) T109.heap n0 Z109 Fa109) hZ (hw _ (List.mem_of_getElem? (i := 35) rfl)) (hw _ (List.mem_of_getElem? (i := 14) rfl)) (by decide) (by decide)) q117a q117c (g := (mkF m 32 #[.val (.long q1), .second, .val (.long q2), .second, .val (.long q3), .second, .val (.long q4), .second, .val (.long q5), .second, .val (.int p6), .val (.ref b1), .val (.long q3), .second, .unset, .unset, .unset, .unset, .unset, .unset] [(.ref b1)])) rfl (by rw [hml]; rfl) (Steps.refl _) (argsL := []) (rest := []) (lenOf pd_1 rfl) rfl (by show 2 * 0 + _ ≤ _; exact Nat.le_of_eq rfl) (hb hby at_32) (fun _ _ => ⟨rfl, rfl, (by decide : 1 + 0 ≤ _), (by decide : 2 + 0 ≤ _)⟩)
      dsimp only [Pt.U, Pt.locs, Pt.cells, Pt.slots] at X116 l116 y116 z116 st116 hQ116
      subst l116 y116 z116
      obtain ⟨rfl, M116, e116⟩ := hQ116
      have N116 := Fr.app N109 M116
      have R118 : ∀ t, Steps p.tables e below (T116.setTop (mkF m 35 #[.val (.long q1), .second, .val (.long q2), .second, .val (.long q3), .second, .val (.long q4), .second, .val (.long q5), .second, .val (.int p6), .val (.ref b1), .val (.long q3), .second, .unset, .unset, .unset, .unset, .unset, .unset] [(.long (own_s q1 q2))])) t → Steps p.tables e below (s₁.setTop (mkF m 0 #[.val (.long q1), .second, .val (.long q2), .second, .val (.long q3), .second, .val (.long q4), .second, .val (.long q5), .second, .val (.int p6), .unset, .unset, .unset, .unset, .unset, .unset, .unset, .unset, .unset] [])) t := fun t k => R115 t (st116.trans k)
      have R119 : ∀ t, Steps p.tables e below (T116.setTop (mkF m 47 #[.val (.long q1), .second, .val (.long q2), .second, .val (.long q3), .second, .val (.long q4), .second, .val (.long q5), .second, .val (.int p6), .val (.ref b1), .val (.long ((own_s q1 q2) + (((((((p6).toUInt32 >>> ((2 : Int32) &&& 31).toUInt32).toInt32) &&& (3 : Int32)) - (1 : Int32))).toInt64))), .second, .unset, .unset, .unset, .unset, .unset, .unset] [])) t → Steps p.tables e below (s₁.setTop (mkF m 0 #[.val (.long q1), .second, .val (.long q2), .second, .val (.long q3), .second, .val (.long q4), .second, .val (.long q5), .second, .val (.int p6), .unset, .unset, .unset, .unset, .unset, .unset, .unset, .unset, .unset] [])) t := by
        intro t k
        refine R118 t ?_
        refine XS.iload X116.here hx rfl (hb hby at_35) rfl ?_
        refine XS.iconst X116.here hx rfl (hb hby at_37) ?_
        refine XS.iushr X116.here hx rfl (hb hby at_38) rfl ?_
        refine XS.iconst X116.here hx rfl (hb hby at_39) ?_
        refine XS.iand X116.here hx rfl (hb hby at_40) rfl ?_
        refine XS.iconst X116.here hx rfl (hb hby at_41) ?_
        refine XS.isub X116.here hx rfl (hb hby at_42) rfl ?_
        refine XS.i2l X116.here hx rfl (hb hby at_43) rfl ?_
        refine XS.ladd X116.here hx rfl (hb hby at_44) rfl ?_
        refine XS.lstore X116.here hx rfl (hb hby at_45) rfl (l' := #[.val (.long q1), .second, .val (.long q2), .second, .val (.long q3), .second, .val (.long q4), .second, .val (.long q5), .second, .val (.int p6), .val (.ref b1), .val (.long ((own_s q1 q2) + (((((((p6).toUInt32 >>> ((2 : Int32) &&& 31).toUInt32).toInt32) &&& (3 : Int32)) - (1 : Int32))).toInt64))), .second, .unset, .unset, .unset, .unset, .unset, .unset]) rfl ?_
        exact k
      rw [show own_mv (p6 &&& (2 : Int32)) q3 ((own_s q1 q2) + ((((((p6).toUInt32 >>> ((2 : Int32) &&& 31).toUInt32).toInt32) &&& (3 : Int32)) - (1 : Int32))).toInt64) = (own_s q1 q2) + ((((((p6).toUInt32 >>> ((2 : Int32) &&& 31).toUInt32).toInt32) &&& (3 : Int32)) - (1 : Int32))).toInt64 from if_neg hc]
      exact ⟨_, _, X116, N116, e116, R119⟩
  have R120 : ∀ t, Steps p.tables e below (T112.setTop (mkF m 56 #[.val (.long q1), .second, .val (.long q2), .second, .val (.long q3), .second, .val (.long q4), .second, .val (.long q5), .second, .val (.int p6), .val (.ref b1), .val (.long (own_mv (p6 &&& (2 : Int32)) q3 ((own_s q1 q2) + ((((((p6).toUInt32 >>> ((2 : Int32) &&& 31).toUInt32).toInt32) &&& (3 : Int32)) - (1 : Int32))).toInt64))), .second, .val (.long q4), .second, .unset, .unset, .unset, .unset] [(.int (p6 &&& (16 : Int32)))])) t → Steps p.tables e below (s₁.setTop (mkF m 0 #[.val (.long q1), .second, .val (.long q2), .second, .val (.long q3), .second, .val (.long q4), .second, .val (.long q5), .second, .val (.int p6), .unset, .unset, .unset, .unset, .unset, .unset, .unset, .unset, .unset] [])) t := by
    intro t k
    refine R112 t ?_
    refine XS.lload X112.here hx rfl (hb hby at_47) rfl ?_
    refine XS.lstore X112.here hx rfl (hb hby at_49) rfl (l' := #[.val (.long q1), .second, .val (.long q2), .second, .val (.long q3), .second, .val (.long q4), .second, .val (.long q5), .second, .val (.int p6), .val (.ref b1), .val (.long (own_mv (p6 &&& (2 : Int32)) q3 ((own_s q1 q2) + ((((((p6).toUInt32 >>> ((2 : Int32) &&& 31).toUInt32).toInt32) &&& (3 : Int32)) - (1 : Int32))).toInt64))), .second, .val (.long q4), .second, .unset, .unset, .unset, .unset]) rfl ?_
    refine XS.iload X112.here hx rfl (hb hby at_51) rfl ?_
    refine XS.bipush X112.here hx rfl (hb hby at_53) ?_
    refine XS.iand X112.here hx rfl (hb hby at_55) rfl ?_
    exact k
  obtain ⟨T121, L121, X121, N121, e121, R121⟩ : ∃ (T' : State) (L' : List Loc), Stand p l e room_1 s m #[(.long q1), (.long q2), (.long q3), (.long q4), (.long q5), (.int p6)] below meth c T' L' 1 2 ∧ Fr n0 L' ∧ T'.heap = T109.heap ∧ (∀ t, Steps p.tables e below (T'.setTop (mkF m 76 #[.val (.long q1), .second, .val (.long q2), .second, .val (.long q3), .second, .val (.long q4), .second, .val (.long q5), .second, .val (.int p6), .val (.ref b1), .val (.long (own_mv (p6 &&& (2 : Int32)) q3 ((own_s q1 q2) + ((((((p6).toUInt32 >>> ((2 : Int32) &&& 31).toUInt32).toInt32) &&& (3 : Int32)) - (1 : Int32))).toInt64))), .second, .val (.long (own_mv (p6 &&& (16 : Int32)) q4 ((own_e q1 q2 (own_fl (p6 &&& (1 : Int32)))) + ((((((p6).toUInt32 >>> ((5 : Int32) &&& 31).toUInt32).toInt32) &&& (3 : Int32)) - (1 : Int32))).toInt64))), .second, .unset, .unset, .unset, .unset] [])) t → Steps p.tables e below (s₁.setTop (mkF m 0 #[.val (.long q1), .second, .val (.long q2), .second, .val (.long q3), .second, .val (.long q4), .second, .val (.long q5), .second, .val (.int p6), .unset, .unset, .unset, .unset, .unset, .unset, .unset, .unset, .unset] [])) t) := by
    by_cases hc : (p6 &&& (16 : Int32)) = (0 : Int32)
    · have R122 : ∀ t, Steps p.tables e below (T112.setTop (mkF m 76 #[.val (.long q1), .second, .val (.long q2), .second, .val (.long q3), .second, .val (.long q4), .second, .val (.long q5), .second, .val (.int p6), .val (.ref b1), .val (.long (own_mv (p6 &&& (2 : Int32)) q3 ((own_s q1 q2) + ((((((p6).toUInt32 >>> ((2 : Int32) &&& 31).toUInt32).toInt32) &&& (3 : Int32)) - (1 : Int32))).toInt64))), .second, .val (.long q4), .second, .unset, .unset, .unset, .unset] [])) t → Steps p.tables e below (s₁.setTop (mkF m 0 #[.val (.long q1), .second, .val (.long q2), .second, .val (.long q3), .second, .val (.long q4), .second, .val (.long q5), .second, .val (.int p6), .unset, .unset, .unset, .unset, .unset, .unset, .unset, .unset, .unset] [])) t := by
        intro t k
        refine R120 t ?_
        refine XS.ifYes X112.here hx rfl (pc0 := 56) (pc' := 76) rfl (hb hby at_56) rfl ((if0 _ _).trans (teq hc).1) (by decide) (by decide) ?_
        exact k
      rw [show own_mv (p6 &&& (16 : Int32)) q4 ((own_e q1 q2 (own_fl (p6 &&& (1 : Int32)))) + ((((((p6).toUInt32 >>> ((5 : Int32) &&& 31).toUInt32).toInt32) &&& (3 : Int32)) - (1 : Int32))).toInt64) = q4 from if_pos hc]
      exact ⟨_, _, X112, N112, e112, R122⟩
    · have R123 : ∀ t, Steps p.tables e below (T112.setTop (mkF m 59 #[.val (.long q1), .second, .val (.long q2), .second, .val (.long q3), .second, .val (.long q4), .second, .val (.long q5), .second, .val (.int p6), .val (.ref b1), .val (.long (own_mv (p6 &&& (2 : Int32)) q3 ((own_s q1 q2) + ((((((p6).toUInt32 >>> ((2 : Int32) &&& 31).toUInt32).toInt32) &&& (3 : Int32)) - (1 : Int32))).toInt64))), .second, .val (.long q4), .second, .unset, .unset, .unset, .unset] [])) t → Steps p.tables e below (s₁.setTop (mkF m 0 #[.val (.long q1), .second, .val (.long q2), .second, .val (.long q3), .second, .val (.long q4), .second, .val (.long q5), .second, .val (.int p6), .unset, .unset, .unset, .unset, .unset, .unset, .unset, .unset, .unset] [])) t := by
        intro t k
        refine R120 t ?_
        refine XS.ifNo X112.here hx rfl (hb hby at_56) rfl ((if0 _ _).trans (feq hc).1) ?_
        exact k
      have R124 : ∀ t, Steps p.tables e below (T112.setTop (mkF m 61 #[.val (.long q1), .second, .val (.long q2), .second, .val (.long q3), .second, .val (.long q4), .second, .val (.long q5), .second, .val (.int p6), .val (.ref b1), .val (.long (own_mv (p6 &&& (2 : Int32)) q3 ((own_s q1 q2) + ((((((p6).toUInt32 >>> ((2 : Int32) &&& 31).toUInt32).toInt32) &&& (3 : Int32)) - (1 : Int32))).toInt64))), .second, .val (.long q4), .second, .unset, .unset, .unset, .unset] [(.ref b1)])) t → Steps p.tables e below (s₁.setTop (mkF m 0 #[.val (.long q1), .second, .val (.long q2), .second, .val (.long q3), .second, .val (.long q4), .second, .val (.long q5), .second, .val (.int p6), .unset, .unset, .unset, .unset, .unset, .unset, .unset, .unset, .unset] [])) t := by
        intro t k
        refine R123 t ?_
        refine XS.aload X112.here hx rfl (hb hby at_59) rfl rfl ?_
        exact k
      obtain ⟨_, _, q126a, q126b, q126c⟩ := isOf hZ e112 Eo109
      obtain ⟨_, _, ⟨T125, L125, k125, n125⟩, -, X125, ⟨Lc125, hQ125, l125, y125, z125⟩, st125⟩ := X112.virtualBack hx (y := (⟨"com/example/varese/varese/Interval", "end", "()J"⟩ : MethodName)) (z := (⟨"com/example/varese/varese/Interval", "end", "()J"⟩ : MethodName)) hown (mvT hZ (hw _ (List.mem_of_getElem? (i := 44) rfl))) (mvT hZ (hw _ (List.mem_of_getElem? (i := 45) rfl))) (notFace_of_selects (args := #[]) (mvT hZ (hw _ (List.mem_of_getElem? (i := 47) rfl)))) (mvT hZ (hw _ (List.mem_of_getElem? (i := 47) rfl))) (mvT hZ (hw _ (List.mem_of_getElem? (i := 46) rfl))) (by decide) (backOf (W := 0) (rm10 l Z a0 hw [] b1 (own_e q1 q2 (own_fl (p6 &&& (1 : Int32)))) T109.heap n0 Z109 Fb109) hZ (hw _ (List.mem_of_getElem? (i := 48) rfl)) (hw _ (List.mem_of_getElem? (i := 14) rfl)) (by decide) (by decide)) q126a q126c (g := (mkF m 61 #[.val (.long q1), .second, .val (.long q2), .second, .val (.long q3), .second, .val (.long q4), .second, .val (.long q5), .second, .val (.int p6), .val (.ref b1), .val (.long (own_mv (p6 &&& (2 : Int32)) q3 ((own_s q1 q2) + ((((((p6).toUInt32 >>> ((2 : Int32) &&& 31).toUInt32).toInt32) &&& (3 : Int32)) - (1 : Int32))).toInt64))), .second, .val (.long q4), .second, .unset, .unset, .unset, .unset] [(.ref b1)])) rfl (by rw [hml]; rfl) (Steps.refl _) (argsL := []) (rest := []) (lenOf pd_1 rfl) rfl (by show 2 * 0 + _ ≤ _; exact Nat.le_of_eq rfl) (hb hby at_61) (fun _ _ => ⟨rfl, e112, (by decide : 1 + 0 ≤ _), (by decide : 2 + 0 ≤ _)⟩)
      dsimp only [Pt.U, Pt.locs, Pt.cells, Pt.slots] at X125 l125 y125 z125 st125 hQ125
      subst l125 y125 z125
      obtain ⟨rfl, M125, e125⟩ := hQ125
      have N125 := Fr.app N112 M125
      have R127 : ∀ t, Steps p.tables e below (T125.setTop (mkF m 64 #[.val (.long q1), .second, .val (.long q2), .second, .val (.long q3), .second, .val (.long q4), .second, .val (.long q5), .second, .val (.int p6), .val (.ref b1), .val (.long (own_mv (p6 &&& (2 : Int32)) q3 ((own_s q1 q2) + ((((((p6).toUInt32 >>> ((2 : Int32) &&& 31).toUInt32).toInt32) &&& (3 : Int32)) - (1 : Int32))).toInt64))), .second, .val (.long q4), .second, .unset, .unset, .unset, .unset] [(.long (own_e q1 q2 (own_fl (p6 &&& (1 : Int32)))))])) t → Steps p.tables e below (s₁.setTop (mkF m 0 #[.val (.long q1), .second, .val (.long q2), .second, .val (.long q3), .second, .val (.long q4), .second, .val (.long q5), .second, .val (.int p6), .unset, .unset, .unset, .unset, .unset, .unset, .unset, .unset, .unset] [])) t := fun t k => R124 t (st125.trans k)
      have R128 : ∀ t, Steps p.tables e below (T125.setTop (mkF m 76 #[.val (.long q1), .second, .val (.long q2), .second, .val (.long q3), .second, .val (.long q4), .second, .val (.long q5), .second, .val (.int p6), .val (.ref b1), .val (.long (own_mv (p6 &&& (2 : Int32)) q3 ((own_s q1 q2) + ((((((p6).toUInt32 >>> ((2 : Int32) &&& 31).toUInt32).toInt32) &&& (3 : Int32)) - (1 : Int32))).toInt64))), .second, .val (.long ((own_e q1 q2 (own_fl (p6 &&& (1 : Int32)))) + (((((((p6).toUInt32 >>> ((5 : Int32) &&& 31).toUInt32).toInt32) &&& (3 : Int32)) - (1 : Int32))).toInt64))), .second, .unset, .unset, .unset, .unset] [])) t → Steps p.tables e below (s₁.setTop (mkF m 0 #[.val (.long q1), .second, .val (.long q2), .second, .val (.long q3), .second, .val (.long q4), .second, .val (.long q5), .second, .val (.int p6), .unset, .unset, .unset, .unset, .unset, .unset, .unset, .unset, .unset] [])) t := by
        intro t k
        refine R127 t ?_
        refine XS.iload X125.here hx rfl (hb hby at_64) rfl ?_
        refine XS.iconst X125.here hx rfl (hb hby at_66) ?_
        refine XS.iushr X125.here hx rfl (hb hby at_67) rfl ?_
        refine XS.iconst X125.here hx rfl (hb hby at_68) ?_
        refine XS.iand X125.here hx rfl (hb hby at_69) rfl ?_
        refine XS.iconst X125.here hx rfl (hb hby at_70) ?_
        refine XS.isub X125.here hx rfl (hb hby at_71) rfl ?_
        refine XS.i2l X125.here hx rfl (hb hby at_72) rfl ?_
        refine XS.ladd X125.here hx rfl (hb hby at_73) rfl ?_
        refine XS.lstore X125.here hx rfl (hb hby at_74) rfl (l' := #[.val (.long q1), .second, .val (.long q2), .second, .val (.long q3), .second, .val (.long q4), .second, .val (.long q5), .second, .val (.int p6), .val (.ref b1), .val (.long (own_mv (p6 &&& (2 : Int32)) q3 ((own_s q1 q2) + ((((((p6).toUInt32 >>> ((2 : Int32) &&& 31).toUInt32).toInt32) &&& (3 : Int32)) - (1 : Int32))).toInt64))), .second, .val (.long ((own_e q1 q2 (own_fl (p6 &&& (1 : Int32)))) + (((((((p6).toUInt32 >>> ((5 : Int32) &&& 31).toUInt32).toInt32) &&& (3 : Int32)) - (1 : Int32))).toInt64))), .second, .unset, .unset, .unset, .unset]) rfl ?_
        exact k
      rw [show own_mv (p6 &&& (16 : Int32)) q4 ((own_e q1 q2 (own_fl (p6 &&& (1 : Int32)))) + ((((((p6).toUInt32 >>> ((5 : Int32) &&& 31).toUInt32).toInt32) &&& (3 : Int32)) - (1 : Int32))).toInt64) = (own_e q1 q2 (own_fl (p6 &&& (1 : Int32)))) + ((((((p6).toUInt32 >>> ((5 : Int32) &&& 31).toUInt32).toInt32) &&& (3 : Int32)) - (1 : Int32))).toInt64 from if_neg hc]
      exact ⟨_, _, X125, N125, e125, R128⟩
  have R129 : ∀ t, Steps p.tables e below (T121.setTop (mkF m 86 #[.val (.long q1), .second, .val (.long q2), .second, .val (.long q3), .second, .val (.long q4), .second, .val (.long q5), .second, .val (.int p6), .val (.ref b1), .val (.long (own_mv (p6 &&& (2 : Int32)) q3 ((own_s q1 q2) + ((((((p6).toUInt32 >>> ((2 : Int32) &&& 31).toUInt32).toInt32) &&& (3 : Int32)) - (1 : Int32))).toInt64))), .second, .val (.long (own_mv (p6 &&& (16 : Int32)) q4 ((own_e q1 q2 (own_fl (p6 &&& (1 : Int32)))) + ((((((p6).toUInt32 >>> ((5 : Int32) &&& 31).toUInt32).toInt32) &&& (3 : Int32)) - (1 : Int32))).toInt64))), .second, .unset, .unset, .unset, .unset] [(.int (p6 &&& (128 : Int32))), (.long (own_mv (p6 &&& (16 : Int32)) q4 ((own_e q1 q2 (own_fl (p6 &&& (1 : Int32)))) + ((((((p6).toUInt32 >>> ((5 : Int32) &&& 31).toUInt32).toInt32) &&& (3 : Int32)) - (1 : Int32))).toInt64))), (.long (own_mv (p6 &&& (2 : Int32)) q3 ((own_s q1 q2) + ((((((p6).toUInt32 >>> ((2 : Int32) &&& 31).toUInt32).toInt32) &&& (3 : Int32)) - (1 : Int32))).toInt64)))])) t → Steps p.tables e below (s₁.setTop (mkF m 0 #[.val (.long q1), .second, .val (.long q2), .second, .val (.long q3), .second, .val (.long q4), .second, .val (.long q5), .second, .val (.int p6), .unset, .unset, .unset, .unset, .unset, .unset, .unset, .unset, .unset] [])) t := by
    intro t k
    refine R121 t ?_
    refine XS.lload X121.here hx rfl (hb hby at_76) rfl ?_
    refine XS.lload X121.here hx rfl (hb hby at_78) rfl ?_
    refine XS.iload X121.here hx rfl (hb hby at_80) rfl ?_
    refine XS.sipush X121.here hx rfl (hb hby at_82) ?_
    refine XS.iand X121.here hx rfl (hb hby at_85) rfl ?_
    exact k
  have R130 : ∀ t, Steps p.tables e below (T121.setTop (mkF m 94 #[.val (.long q1), .second, .val (.long q2), .second, .val (.long q3), .second, .val (.long q4), .second, .val (.long q5), .second, .val (.int p6), .val (.ref b1), .val (.long (own_mv (p6 &&& (2 : Int32)) q3 ((own_s q1 q2) + ((((((p6).toUInt32 >>> ((2 : Int32) &&& 31).toUInt32).toInt32) &&& (3 : Int32)) - (1 : Int32))).toInt64))), .second, .val (.long (own_mv (p6 &&& (16 : Int32)) q4 ((own_e q1 q2 (own_fl (p6 &&& (1 : Int32)))) + ((((((p6).toUInt32 >>> ((5 : Int32) &&& 31).toUInt32).toInt32) &&& (3 : Int32)) - (1 : Int32))).toInt64))), .second, .unset, .unset, .unset, .unset] [(.int (own_fl (p6 &&& (128 : Int32)))), (.long (own_mv (p6 &&& (16 : Int32)) q4 ((own_e q1 q2 (own_fl (p6 &&& (1 : Int32)))) + ((((((p6).toUInt32 >>> ((5 : Int32) &&& 31).toUInt32).toInt32) &&& (3 : Int32)) - (1 : Int32))).toInt64))), (.long (own_mv (p6 &&& (2 : Int32)) q3 ((own_s q1 q2) + ((((((p6).toUInt32 >>> ((2 : Int32) &&& 31).toUInt32).toInt32) &&& (3 : Int32)) - (1 : Int32))).toInt64)))])) t → Steps p.tables e below (s₁.setTop (mkF m 0 #[.val (.long q1), .second, .val (.long q2), .second, .val (.long q3), .second, .val (.long q4), .second, .val (.long q5), .second, .val (.int p6), .unset, .unset, .unset, .unset, .unset, .unset, .unset, .unset, .unset] [])) t := by
    intro t k
    by_cases hc : (p6 &&& (128 : Int32)) = (0 : Int32)
    · rw [show own_fl (p6 &&& (128 : Int32)) = 0 from if_pos hc] at k
      have R131 : ∀ t, Steps p.tables e below (T121.setTop (mkF m 93 #[.val (.long q1), .second, .val (.long q2), .second, .val (.long q3), .second, .val (.long q4), .second, .val (.long q5), .second, .val (.int p6), .val (.ref b1), .val (.long (own_mv (p6 &&& (2 : Int32)) q3 ((own_s q1 q2) + ((((((p6).toUInt32 >>> ((2 : Int32) &&& 31).toUInt32).toInt32) &&& (3 : Int32)) - (1 : Int32))).toInt64))), .second, .val (.long (own_mv (p6 &&& (16 : Int32)) q4 ((own_e q1 q2 (own_fl (p6 &&& (1 : Int32)))) + ((((((p6).toUInt32 >>> ((5 : Int32) &&& 31).toUInt32).toInt32) &&& (3 : Int32)) - (1 : Int32))).toInt64))), .second, .unset, .unset, .unset, .unset] [(.long (own_mv (p6 &&& (16 : Int32)) q4 ((own_e q1 q2 (own_fl (p6 &&& (1 : Int32)))) + ((((((p6).toUInt32 >>> ((5 : Int32) &&& 31).toUInt32).toInt32) &&& (3 : Int32)) - (1 : Int32))).toInt64))), (.long (own_mv (p6 &&& (2 : Int32)) q3 ((own_s q1 q2) + ((((((p6).toUInt32 >>> ((2 : Int32) &&& 31).toUInt32).toInt32) &&& (3 : Int32)) - (1 : Int32))).toInt64)))])) t → Steps p.tables e below (s₁.setTop (mkF m 0 #[.val (.long q1), .second, .val (.long q2), .second, .val (.long q3), .second, .val (.long q4), .second, .val (.long q5), .second, .val (.int p6), .unset, .unset, .unset, .unset, .unset, .unset, .unset, .unset, .unset] [])) t := by
        intro t k
        refine R129 t ?_
        refine XS.ifYes X121.here hx rfl (pc0 := 86) (pc' := 93) rfl (hb hby at_86) rfl ((if0 _ _).trans (teq hc).1) (by decide) (by decide) ?_
        exact k
      have R132 : ∀ t, Steps p.tables e below (T121.setTop (mkF m 94 #[.val (.long q1), .second, .val (.long q2), .second, .val (.long q3), .second, .val (.long q4), .second, .val (.long q5), .second, .val (.int p6), .val (.ref b1), .val (.long (own_mv (p6 &&& (2 : Int32)) q3 ((own_s q1 q2) + ((((((p6).toUInt32 >>> ((2 : Int32) &&& 31).toUInt32).toInt32) &&& (3 : Int32)) - (1 : Int32))).toInt64))), .second, .val (.long (own_mv (p6 &&& (16 : Int32)) q4 ((own_e q1 q2 (own_fl (p6 &&& (1 : Int32)))) + ((((((p6).toUInt32 >>> ((5 : Int32) &&& 31).toUInt32).toInt32) &&& (3 : Int32)) - (1 : Int32))).toInt64))), .second, .unset, .unset, .unset, .unset] [(.int (0 : Int32)), (.long (own_mv (p6 &&& (16 : Int32)) q4 ((own_e q1 q2 (own_fl (p6 &&& (1 : Int32)))) + ((((((p6).toUInt32 >>> ((5 : Int32) &&& 31).toUInt32).toInt32) &&& (3 : Int32)) - (1 : Int32))).toInt64))), (.long (own_mv (p6 &&& (2 : Int32)) q3 ((own_s q1 q2) + ((((((p6).toUInt32 >>> ((2 : Int32) &&& 31).toUInt32).toInt32) &&& (3 : Int32)) - (1 : Int32))).toInt64)))])) t → Steps p.tables e below (s₁.setTop (mkF m 0 #[.val (.long q1), .second, .val (.long q2), .second, .val (.long q3), .second, .val (.long q4), .second, .val (.long q5), .second, .val (.int p6), .unset, .unset, .unset, .unset, .unset, .unset, .unset, .unset, .unset] [])) t := by
        intro t k
        refine R131 t ?_
        refine XS.iconst X121.here hx rfl (hb hby at_93) ?_
        exact k
      exact R132 t k
    · rw [show own_fl (p6 &&& (128 : Int32)) = 1 from if_neg hc] at k
      have R133 : ∀ t, Steps p.tables e below (T121.setTop (mkF m 89 #[.val (.long q1), .second, .val (.long q2), .second, .val (.long q3), .second, .val (.long q4), .second, .val (.long q5), .second, .val (.int p6), .val (.ref b1), .val (.long (own_mv (p6 &&& (2 : Int32)) q3 ((own_s q1 q2) + ((((((p6).toUInt32 >>> ((2 : Int32) &&& 31).toUInt32).toInt32) &&& (3 : Int32)) - (1 : Int32))).toInt64))), .second, .val (.long (own_mv (p6 &&& (16 : Int32)) q4 ((own_e q1 q2 (own_fl (p6 &&& (1 : Int32)))) + ((((((p6).toUInt32 >>> ((5 : Int32) &&& 31).toUInt32).toInt32) &&& (3 : Int32)) - (1 : Int32))).toInt64))), .second, .unset, .unset, .unset, .unset] [(.long (own_mv (p6 &&& (16 : Int32)) q4 ((own_e q1 q2 (own_fl (p6 &&& (1 : Int32)))) + ((((((p6).toUInt32 >>> ((5 : Int32) &&& 31).toUInt32).toInt32) &&& (3 : Int32)) - (1 : Int32))).toInt64))), (.long (own_mv (p6 &&& (2 : Int32)) q3 ((own_s q1 q2) + ((((((p6).toUInt32 >>> ((2 : Int32) &&& 31).toUInt32).toInt32) &&& (3 : Int32)) - (1 : Int32))).toInt64)))])) t → Steps p.tables e below (s₁.setTop (mkF m 0 #[.val (.long q1), .second, .val (.long q2), .second, .val (.long q3), .second, .val (.long q4), .second, .val (.long q5), .second, .val (.int p6), .unset, .unset, .unset, .unset, .unset, .unset, .unset, .unset, .unset] [])) t := by
        intro t k
        refine R129 t ?_
        refine XS.ifNo X121.here hx rfl (hb hby at_86) rfl ((if0 _ _).trans (feq hc).1) ?_
        exact k
      have R134 : ∀ t, Steps p.tables e below (T121.setTop (mkF m 94 #[.val (.long q1), .second, .val (.long q2), .second, .val (.long q3), .second, .val (.long q4), .second, .val (.long q5), .second, .val (.int p6), .val (.ref b1), .val (.long (own_mv (p6 &&& (2 : Int32)) q3 ((own_s q1 q2) + ((((((p6).toUInt32 >>> ((2 : Int32) &&& 31).toUInt32).toInt32) &&& (3 : Int32)) - (1 : Int32))).toInt64))), .second, .val (.long (own_mv (p6 &&& (16 : Int32)) q4 ((own_e q1 q2 (own_fl (p6 &&& (1 : Int32)))) + ((((((p6).toUInt32 >>> ((5 : Int32) &&& 31).toUInt32).toInt32) &&& (3 : Int32)) - (1 : Int32))).toInt64))), .second, .unset, .unset, .unset, .unset] [(.int (1 : Int32)), (.long (own_mv (p6 &&& (16 : Int32)) q4 ((own_e q1 q2 (own_fl (p6 &&& (1 : Int32)))) + ((((((p6).toUInt32 >>> ((5 : Int32) &&& 31).toUInt32).toInt32) &&& (3 : Int32)) - (1 : Int32))).toInt64))), (.long (own_mv (p6 &&& (2 : Int32)) q3 ((own_s q1 q2) + ((((((p6).toUInt32 >>> ((2 : Int32) &&& 31).toUInt32).toInt32) &&& (3 : Int32)) - (1 : Int32))).toInt64)))])) t → Steps p.tables e below (s₁.setTop (mkF m 0 #[.val (.long q1), .second, .val (.long q2), .second, .val (.long q3), .second, .val (.long q4), .second, .val (.long q5), .second, .val (.int p6), .unset, .unset, .unset, .unset, .unset, .unset, .unset, .unset, .unset] [])) t := by
        intro t k
        refine R133 t ?_
        refine XS.iconst X121.here hx rfl (hb hby at_89) ?_
        refine XS.goto X121.here hx rfl (pc0 := 90) (pc' := 94) rfl (hb hby at_90) (by decide) (by decide) ?_
        exact k
      exact R134 t k
  obtain ⟨_, _, ⟨T135, L135, k135, n135⟩, -, X135, ⟨Lc135, hQ135, l135, y135, z135⟩, st135⟩ := Jvm.LawKit.callS X121 hx (y := (⟨"com/example/varese/varese/IntervalEnclosesPinLaw", "mk", "(JJZ)Lcom/example/varese/varese/Interval;"⟩ : MethodName)) hown (mvT hZ (hw _ (List.mem_of_getElem? (i := 0) rfl))) (mvT hZ (hw _ (List.mem_of_getElem? (i := 1) rfl))) (mvT hZ (hw _ (List.mem_of_getElem? (i := 2) rfl))) (mvT hZ (hw _ (List.mem_of_getElem? (i := 3) rfl))) (by decide) (backOf (W := 0) (rm1 l Z a0 hw [] (own_mv (p6 &&& (2 : Int32)) q3 ((own_s q1 q2) + ((((((p6).toUInt32 >>> ((2 : Int32) &&& 31).toUInt32).toInt32) &&& (3 : Int32)) - (1 : Int32))).toInt64)) (own_mv (p6 &&& (16 : Int32)) q4 ((own_e q1 q2 (own_fl (p6 &&& (1 : Int32)))) + ((((((p6).toUInt32 >>> ((5 : Int32) &&& 31).toUInt32).toInt32) &&& (3 : Int32)) - (1 : Int32))).toInt64)) (own_fl (p6 &&& (128 : Int32)))  T109.heap n0 Z109 ) hZ (hw _ (List.mem_of_getElem? (i := 3) rfl)) (hw _ (List.mem_of_getElem? (i := 2) rfl)) (by decide) (by decide)) (g := (mkF m 94 #[.val (.long q1), .second, .val (.long q2), .second, .val (.long q3), .second, .val (.long q4), .second, .val (.long q5), .second, .val (.int p6), .val (.ref b1), .val (.long (own_mv (p6 &&& (2 : Int32)) q3 ((own_s q1 q2) + ((((((p6).toUInt32 >>> ((2 : Int32) &&& 31).toUInt32).toInt32) &&& (3 : Int32)) - (1 : Int32))).toInt64))), .second, .val (.long (own_mv (p6 &&& (16 : Int32)) q4 ((own_e q1 q2 (own_fl (p6 &&& (1 : Int32)))) + ((((((p6).toUInt32 >>> ((5 : Int32) &&& 31).toUInt32).toInt32) &&& (3 : Int32)) - (1 : Int32))).toInt64))), .second, .unset, .unset, .unset, .unset] [(.int (own_fl (p6 &&& (128 : Int32)))), (.long (own_mv (p6 &&& (16 : Int32)) q4 ((own_e q1 q2 (own_fl (p6 &&& (1 : Int32)))) + ((((((p6).toUInt32 >>> ((5 : Int32) &&& 31).toUInt32).toInt32) &&& (3 : Int32)) - (1 : Int32))).toInt64))), (.long (own_mv (p6 &&& (2 : Int32)) q3 ((own_s q1 q2) + ((((((p6).toUInt32 >>> ((2 : Int32) &&& 31).toUInt32).toInt32) &&& (3 : Int32)) - (1 : Int32))).toInt64)))])) rfl (by rw [hml]; rfl) (argsL := [(.long (own_mv (p6 &&& (2 : Int32)) q3 ((own_s q1 q2) + ((((((p6).toUInt32 >>> ((2 : Int32) &&& 31).toUInt32).toInt32) &&& (3 : Int32)) - (1 : Int32))).toInt64))), (.long (own_mv (p6 &&& (16 : Int32)) q4 ((own_e q1 q2 (own_fl (p6 &&& (1 : Int32)))) + ((((((p6).toUInt32 >>> ((5 : Int32) &&& 31).toUInt32).toInt32) &&& (3 : Int32)) - (1 : Int32))).toInt64))), (.int (own_fl (p6 &&& (128 : Int32))))]) (rest := []) (lenOf pd_4 rfl) rfl (by show 2 * 0 + _ ≤ _; exact Nat.le_of_eq rfl) (hb hby at_94) (fun _ _ => ⟨rfl, e121, (by decide : 1 + 1 ≤ _), (by decide : 2 + 2 ≤ _)⟩)
  dsimp only [Pt.U, Pt.locs, Pt.cells, Pt.slots] at X135 l135 y135 z135 st135 hQ135
  subst l135 y135 z135
  obtain ⟨b2, rfl, M135, J135, zf135, Eo135, Fa135, Fb135⟩ := hQ135
  have Z135 : n0 ≤ T135.heap.size := Nat.le_trans Z109 J135.1
  have ne_b1_b2 : b1 ≠ b2 := Nat.ne_of_lt (Nat.lt_of_lt_of_le Eo109.lt zf135)
  have n_b2 : n0 ≤ b2 := Nat.le_trans Z109 zf135
  have E_136 : Exa Z T135.heap b1 "com/example/varese/varese/Interval" := Eo109.keep J135
  have F_137 : Fld Z T135.heap b1 "com/example/varese/varese/Interval" "start" "J" (.long (own_s q1 q2)) := Fa109.keep J135 nin0
  have F_138 : Fld Z T135.heap b1 "com/example/varese/varese/Interval" "end" "J" (.long (own_e q1 q2 (own_fl (p6 &&& (1 : Int32))))) := Fb109.keep J135 nin0
  have N135 := Fr.app N121 M135
  have R139 : ∀ t, Steps p.tables e below (T135.setTop (mkF m 97 #[.val (.long q1), .second, .val (.long q2), .second, .val (.long q3), .second, .val (.long q4), .second, .val (.long q5), .second, .val (.int p6), .val (.ref b1), .val (.long (own_mv (p6 &&& (2 : Int32)) q3 ((own_s q1 q2) + ((((((p6).toUInt32 >>> ((2 : Int32) &&& 31).toUInt32).toInt32) &&& (3 : Int32)) - (1 : Int32))).toInt64))), .second, .val (.long (own_mv (p6 &&& (16 : Int32)) q4 ((own_e q1 q2 (own_fl (p6 &&& (1 : Int32)))) + ((((((p6).toUInt32 >>> ((5 : Int32) &&& 31).toUInt32).toInt32) &&& (3 : Int32)) - (1 : Int32))).toInt64))), .second, .unset, .unset, .unset, .unset] [(.ref b2)])) t → Steps p.tables e below (s₁.setTop (mkF m 0 #[.val (.long q1), .second, .val (.long q2), .second, .val (.long q3), .second, .val (.long q4), .second, .val (.long q5), .second, .val (.int p6), .unset, .unset, .unset, .unset, .unset, .unset, .unset, .unset, .unset] [])) t := fun t k => R130 t (st135 _ k)
  have R140 : ∀ t, Steps p.tables e below (T135.setTop (mkF m 103 #[.val (.long q1), .second, .val (.long q2), .second, .val (.long q3), .second, .val (.long q4), .second, .val (.long q5), .second, .val (.int p6), .val (.ref b1), .val (.long (own_mv (p6 &&& (2 : Int32)) q3 ((own_s q1 q2) + ((((((p6).toUInt32 >>> ((2 : Int32) &&& 31).toUInt32).toInt32) &&& (3 : Int32)) - (1 : Int32))).toInt64))), .second, .val (.long (own_mv (p6 &&& (16 : Int32)) q4 ((own_e q1 q2 (own_fl (p6 &&& (1 : Int32)))) + ((((((p6).toUInt32 >>> ((5 : Int32) &&& 31).toUInt32).toInt32) &&& (3 : Int32)) - (1 : Int32))).toInt64))), .second, .val (.ref b2), .unset, .unset, .unset] [(.ref b2), (.ref b1)])) t → Steps p.tables e below (s₁.setTop (mkF m 0 #[.val (.long q1), .second, .val (.long q2), .second, .val (.long q3), .second, .val (.long q4), .second, .val (.long q5), .second, .val (.int p6), .unset, .unset, .unset, .unset, .unset, .unset, .unset, .unset, .unset] [])) t := by
    intro t k
    refine R139 t ?_
    refine XS.astore X135.here hx rfl (hb hby at_97) rfl rfl (l' := #[.val (.long q1), .second, .val (.long q2), .second, .val (.long q3), .second, .val (.long q4), .second, .val (.long q5), .second, .val (.int p6), .val (.ref b1), .val (.long (own_mv (p6 &&& (2 : Int32)) q3 ((own_s q1 q2) + ((((((p6).toUInt32 >>> ((2 : Int32) &&& 31).toUInt32).toInt32) &&& (3 : Int32)) - (1 : Int32))).toInt64))), .second, .val (.long (own_mv (p6 &&& (16 : Int32)) q4 ((own_e q1 q2 (own_fl (p6 &&& (1 : Int32)))) + ((((((p6).toUInt32 >>> ((5 : Int32) &&& 31).toUInt32).toInt32) &&& (3 : Int32)) - (1 : Int32))).toInt64))), .second, .val (.ref b2), .unset, .unset, .unset]) rfl ?_
    refine XS.aload X135.here hx rfl (hb hby at_99) rfl rfl ?_
    refine XS.aload X135.here hx rfl (hb hby at_101) rfl rfl ?_
    exact k
  obtain ⟨_, _, q142a, q142b, q142c⟩ := isOf hZ rfl E_136
  obtain ⟨_, _, ⟨T141, L141, k141, n141⟩, -, X141, ⟨Lc141, hQ141, l141, y141, z141⟩, st141⟩ := X135.virtualBack hx (y := (⟨"com/example/varese/varese/Interval", "encloses", "(Lcom/example/varese/varese/Interval;)Z"⟩ : MethodName)) (z := (⟨"com/example/varese/varese/Interval", "encloses", "(Lcom/example/varese/varese/Interval;)Z"⟩ : MethodName)) hown (mvT hZ (hw _ (List.mem_of_getElem? (i := 36) rfl))) (mvT hZ (hw _ (List.mem_of_getElem? (i := 37) rfl))) (notFace_of_selects (args := #[]) (mvT hZ (hw _ (List.mem_of_getElem? (i := 39) rfl)))) (mvT hZ (hw _ (List.mem_of_getElem? (i := 39) rfl))) (mvT hZ (hw _ (List.mem_of_getElem? (i := 38) rfl))) (by decide) (backOf (W := 0) (rm8 l Z a0 hw [] b1 b2 (own_s q1 q2) (own_e q1 q2 (own_fl (p6 &&& (1 : Int32)))) (own_s (own_mv (p6 &&& (2 : Int32)) q3 ((own_s q1 q2) + ((((((p6).toUInt32 >>> ((2 : Int32) &&& 31).toUInt32).toInt32) &&& (3 : Int32)) - (1 : Int32))).toInt64)) (own_mv (p6 &&& (16 : Int32)) q4 ((own_e q1 q2 (own_fl (p6 &&& (1 : Int32)))) + ((((((p6).toUInt32 >>> ((5 : Int32) &&& 31).toUInt32).toInt32) &&& (3 : Int32)) - (1 : Int32))).toInt64))) (own_e (own_mv (p6 &&& (2 : Int32)) q3 ((own_s q1 q2) + ((((((p6).toUInt32 >>> ((2 : Int32) &&& 31).toUInt32).toInt32) &&& (3 : Int32)) - (1 : Int32))).toInt64)) (own_mv (p6 &&& (16 : Int32)) q4 ((own_e q1 q2 (own_fl (p6 &&& (1 : Int32)))) + ((((((p6).toUInt32 >>> ((5 : Int32) &&& 31).toUInt32).toInt32) &&& (3 : Int32)) - (1 : Int32))).toInt64)) (own_fl (p6 &&& (128 : Int32)))) T135.heap n0 Z135 F_137 F_138 Fa135 Fb135) hZ (hw _ (List.mem_of_getElem? (i := 40) rfl)) (hw _ (List.mem_of_getElem? (i := 14) rfl)) (by decide) (by decide)) q142a q142c (g := (mkF m 103 #[.val (.long q1), .second, .val (.long q2), .second, .val (.long q3), .second, .val (.long q4), .second, .val (.long q5), .second, .val (.int p6), .val (.ref b1), .val (.long (own_mv (p6 &&& (2 : Int32)) q3 ((own_s q1 q2) + ((((((p6).toUInt32 >>> ((2 : Int32) &&& 31).toUInt32).toInt32) &&& (3 : Int32)) - (1 : Int32))).toInt64))), .second, .val (.long (own_mv (p6 &&& (16 : Int32)) q4 ((own_e q1 q2 (own_fl (p6 &&& (1 : Int32)))) + ((((((p6).toUInt32 >>> ((5 : Int32) &&& 31).toUInt32).toInt32) &&& (3 : Int32)) - (1 : Int32))).toInt64))), .second, .val (.ref b2), .unset, .unset, .unset] [(.ref b2), (.ref b1)])) rfl (by rw [hml]; rfl) (Steps.refl _) (argsL := [(.ref b2)]) (rest := []) (lenOf pd_5 rfl) rfl (by show 2 * 0 + _ ≤ _; exact Nat.le_of_eq rfl) (hb hby at_103) (fun _ _ => ⟨rfl, rfl, (by decide : 2 + 0 ≤ _), (by decide : 4 + 0 ≤ _)⟩)
  dsimp only [Pt.U, Pt.locs, Pt.cells, Pt.slots] at X141 l141 y141 z141 st141 hQ141
  subst l141 y141 z141
  obtain ⟨rfl, M141, e141⟩ := hQ141
  have N141 := Fr.app N135 M141
  have R143 : ∀ t, Steps p.tables e below (T141.setTop (mkF m 106 #[.val (.long q1), .second, .val (.long q2), .second, .val (.long q3), .second, .val (.long q4), .second, .val (.long q5), .second, .val (.int p6), .val (.ref b1), .val (.long (own_mv (p6 &&& (2 : Int32)) q3 ((own_s q1 q2) + ((((((p6).toUInt32 >>> ((2 : Int32) &&& 31).toUInt32).toInt32) &&& (3 : Int32)) - (1 : Int32))).toInt64))), .second, .val (.long (own_mv (p6 &&& (16 : Int32)) q4 ((own_e q1 q2 (own_fl (p6 &&& (1 : Int32)))) + ((((((p6).toUInt32 >>> ((5 : Int32) &&& 31).toUInt32).toInt32) &&& (3 : Int32)) - (1 : Int32))).toInt64))), .second, .val (.ref b2), .unset, .unset, .unset] [(.int (own_enc (own_s q1 q2) (own_e q1 q2 (own_fl (p6 &&& (1 : Int32)))) (own_s (own_mv (p6 &&& (2 : Int32)) q3 ((own_s q1 q2) + ((((((p6).toUInt32 >>> ((2 : Int32) &&& 31).toUInt32).toInt32) &&& (3 : Int32)) - (1 : Int32))).toInt64)) (own_mv (p6 &&& (16 : Int32)) q4 ((own_e q1 q2 (own_fl (p6 &&& (1 : Int32)))) + ((((((p6).toUInt32 >>> ((5 : Int32) &&& 31).toUInt32).toInt32) &&& (3 : Int32)) - (1 : Int32))).toInt64))) (own_e (own_mv (p6 &&& (2 : Int32)) q3 ((own_s q1 q2) + ((((((p6).toUInt32 >>> ((2 : Int32) &&& 31).toUInt32).toInt32) &&& (3 : Int32)) - (1 : Int32))).toInt64)) (own_mv (p6 &&& (16 : Int32)) q4 ((own_e q1 q2 (own_fl (p6 &&& (1 : Int32)))) + ((((((p6).toUInt32 >>> ((5 : Int32) &&& 31).toUInt32).toInt32) &&& (3 : Int32)) - (1 : Int32))).toInt64)) (own_fl (p6 &&& (128 : Int32))))))])) t → Steps p.tables e below (s₁.setTop (mkF m 0 #[.val (.long q1), .second, .val (.long q2), .second, .val (.long q3), .second, .val (.long q4), .second, .val (.long q5), .second, .val (.int p6), .unset, .unset, .unset, .unset, .unset, .unset, .unset, .unset, .unset] [])) t := fun t k => R140 t (st141.trans k)
  have R144 : ∀ t, Steps p.tables e below (T141.setTop (mkF m 112 #[.val (.long q1), .second, .val (.long q2), .second, .val (.long q3), .second, .val (.long q4), .second, .val (.long q5), .second, .val (.int p6), .val (.ref b1), .val (.long (own_mv (p6 &&& (2 : Int32)) q3 ((own_s q1 q2) + ((((((p6).toUInt32 >>> ((2 : Int32) &&& 31).toUInt32).toInt32) &&& (3 : Int32)) - (1 : Int32))).toInt64))), .second, .val (.long (own_mv (p6 &&& (16 : Int32)) q4 ((own_e q1 q2 (own_fl (p6 &&& (1 : Int32)))) + ((((((p6).toUInt32 >>> ((5 : Int32) &&& 31).toUInt32).toInt32) &&& (3 : Int32)) - (1 : Int32))).toInt64))), .second, .val (.ref b2), .val (.int (own_enc (own_s q1 q2) (own_e q1 q2 (own_fl (p6 &&& (1 : Int32)))) (own_s (own_mv (p6 &&& (2 : Int32)) q3 ((own_s q1 q2) + ((((((p6).toUInt32 >>> ((2 : Int32) &&& 31).toUInt32).toInt32) &&& (3 : Int32)) - (1 : Int32))).toInt64)) (own_mv (p6 &&& (16 : Int32)) q4 ((own_e q1 q2 (own_fl (p6 &&& (1 : Int32)))) + ((((((p6).toUInt32 >>> ((5 : Int32) &&& 31).toUInt32).toInt32) &&& (3 : Int32)) - (1 : Int32))).toInt64))) (own_e (own_mv (p6 &&& (2 : Int32)) q3 ((own_s q1 q2) + ((((((p6).toUInt32 >>> ((2 : Int32) &&& 31).toUInt32).toInt32) &&& (3 : Int32)) - (1 : Int32))).toInt64)) (own_mv (p6 &&& (16 : Int32)) q4 ((own_e q1 q2 (own_fl (p6 &&& (1 : Int32)))) + ((((((p6).toUInt32 >>> ((5 : Int32) &&& 31).toUInt32).toInt32) &&& (3 : Int32)) - (1 : Int32))).toInt64)) (own_fl (p6 &&& (128 : Int32)))))), .unset, .unset] [(.ref b2), (.ref b1)])) t → Steps p.tables e below (s₁.setTop (mkF m 0 #[.val (.long q1), .second, .val (.long q2), .second, .val (.long q3), .second, .val (.long q4), .second, .val (.long q5), .second, .val (.int p6), .unset, .unset, .unset, .unset, .unset, .unset, .unset, .unset, .unset] [])) t := by
    intro t k
    refine R143 t ?_
    refine XS.istore X141.here hx rfl (hb hby at_106) rfl (l' := #[.val (.long q1), .second, .val (.long q2), .second, .val (.long q3), .second, .val (.long q4), .second, .val (.long q5), .second, .val (.int p6), .val (.ref b1), .val (.long (own_mv (p6 &&& (2 : Int32)) q3 ((own_s q1 q2) + ((((((p6).toUInt32 >>> ((2 : Int32) &&& 31).toUInt32).toInt32) &&& (3 : Int32)) - (1 : Int32))).toInt64))), .second, .val (.long (own_mv (p6 &&& (16 : Int32)) q4 ((own_e q1 q2 (own_fl (p6 &&& (1 : Int32)))) + ((((((p6).toUInt32 >>> ((5 : Int32) &&& 31).toUInt32).toInt32) &&& (3 : Int32)) - (1 : Int32))).toInt64))), .second, .val (.ref b2), .val (.int (own_enc (own_s q1 q2) (own_e q1 q2 (own_fl (p6 &&& (1 : Int32)))) (own_s (own_mv (p6 &&& (2 : Int32)) q3 ((own_s q1 q2) + ((((((p6).toUInt32 >>> ((2 : Int32) &&& 31).toUInt32).toInt32) &&& (3 : Int32)) - (1 : Int32))).toInt64)) (own_mv (p6 &&& (16 : Int32)) q4 ((own_e q1 q2 (own_fl (p6 &&& (1 : Int32)))) + ((((((p6).toUInt32 >>> ((5 : Int32) &&& 31).toUInt32).toInt32) &&& (3 : Int32)) - (1 : Int32))).toInt64))) (own_e (own_mv (p6 &&& (2 : Int32)) q3 ((own_s q1 q2) + ((((((p6).toUInt32 >>> ((2 : Int32) &&& 31).toUInt32).toInt32) &&& (3 : Int32)) - (1 : Int32))).toInt64)) (own_mv (p6 &&& (16 : Int32)) q4 ((own_e q1 q2 (own_fl (p6 &&& (1 : Int32)))) + ((((((p6).toUInt32 >>> ((5 : Int32) &&& 31).toUInt32).toInt32) &&& (3 : Int32)) - (1 : Int32))).toInt64)) (own_fl (p6 &&& (128 : Int32)))))), .unset, .unset]) rfl ?_
    refine XS.aload X141.here hx rfl (hb hby at_108) rfl rfl ?_
    refine XS.aload X141.here hx rfl (hb hby at_110) rfl rfl ?_
    exact k
  obtain ⟨T145, L145, X145, N145, e145, R145⟩ : ∃ (T' : State) (L' : List Loc), Stand p l e room_1 s m #[(.long q1), (.long q2), (.long q3), (.long q4), (.long q5), (.int p6)] below meth c T' L' 2 4 ∧ Fr n0 L' ∧ T'.heap = T135.heap ∧ (∀ t, Steps p.tables e below (T'.setTop (mkF m 141 #[.val (.long q1), .second, .val (.long q2), .second, .val (.long q3), .second, .val (.long q4), .second, .val (.long q5), .second, .val (.int p6), .val (.ref b1), .val (.long (own_mv (p6 &&& (2 : Int32)) q3 ((own_s q1 q2) + ((((((p6).toUInt32 >>> ((2 : Int32) &&& 31).toUInt32).toInt32) &&& (3 : Int32)) - (1 : Int32))).toInt64))), .second, .val (.long (own_mv (p6 &&& (16 : Int32)) q4 ((own_e q1 q2 (own_fl (p6 &&& (1 : Int32)))) + ((((((p6).toUInt32 >>> ((5 : Int32) &&& 31).toUInt32).toInt32) &&& (3 : Int32)) - (1 : Int32))).toInt64))), .second, .val (.ref b2), .val (.int (own_enc (own_s q1 q2) (own_e q1 q2 (own_fl (p6 &&& (1 : Int32)))) (own_s (own_mv (p6 &&& (2 : Int32)) q3 ((own_s q1 q2) + ((((((p6).toUInt32 >>> ((2 : Int32) &&& 31).toUInt32).toInt32) &&& (3 : Int32)) - (1 : Int32))).toInt64)) (own_mv (p6 &&& (16 : Int32)) q4 ((own_e q1 q2 (own_fl (p6 &&& (1 : Int32)))) + ((((((p6).toUInt32 >>> ((5 : Int32) &&& 31).toUInt32).toInt32) &&& (3 : Int32)) - (1 : Int32))).toInt64))) (own_e (own_mv (p6 &&& (2 : Int32)) q3 ((own_s q1 q2) + ((((((p6).toUInt32 >>> ((2 : Int32) &&& 31).toUInt32).toInt32) &&& (3 : Int32)) - (1 : Int32))).toInt64)) (own_mv (p6 &&& (16 : Int32)) q4 ((own_e q1 q2 (own_fl (p6 &&& (1 : Int32)))) + ((((((p6).toUInt32 >>> ((5 : Int32) &&& 31).toUInt32).toInt32) &&& (3 : Int32)) - (1 : Int32))).toInt64)) (own_fl (p6 &&& (128 : Int32)))))), .val (.int (own_exp (own_in (own_s q1 q2) (own_e q1 q2 (own_fl (p6 &&& (1 : Int32)))) (own_s (own_mv (p6 &&& (2 : Int32)) q3 ((own_s q1 q2) + ((((((p6).toUInt32 >>> ((2 : Int32) &&& 31).toUInt32).toInt32) &&& (3 : Int32)) - (1 : Int32))).toInt64)) (own_mv (p6 &&& (16 : Int32)) q4 ((own_e q1 q2 (own_fl (p6 &&& (1 : Int32)))) + ((((((p6).toUInt32 >>> ((5 : Int32) &&& 31).toUInt32).toInt32) &&& (3 : Int32)) - (1 : Int32))).toInt64)))) (own_in (own_s q1 q2) (own_e q1 q2 (own_fl (p6 &&& (1 : Int32)))) (own_e (own_mv (p6 &&& (2 : Int32)) q3 ((own_s q1 q2) + ((((((p6).toUInt32 >>> ((2 : Int32) &&& 31).toUInt32).toInt32) &&& (3 : Int32)) - (1 : Int32))).toInt64)) (own_mv (p6 &&& (16 : Int32)) q4 ((own_e q1 q2 (own_fl (p6 &&& (1 : Int32)))) + ((((((p6).toUInt32 >>> ((5 : Int32) &&& 31).toUInt32).toInt32) &&& (3 : Int32)) - (1 : Int32))).toInt64)) (own_fl (p6 &&& (128 : Int32))))))), .unset] [])) t → Steps p.tables e below (s₁.setTop (mkF m 0 #[.val (.long q1), .second, .val (.long q2), .second, .val (.long q3), .second, .val (.long q4), .second, .val (.long q5), .second, .val (.int p6), .unset, .unset, .unset, .unset, .unset, .unset, .unset, .unset, .unset] [])) t) := by
    obtain ⟨_, _, q147a, q147b, q147c⟩ := isOf hZ e141 Eo135
    obtain ⟨_, _, ⟨T146, L146, k146, n146⟩, -, X146, ⟨Lc146, hQ146, l146, y146, z146⟩, st146⟩ := X141.virtualBack hx (y := (⟨"com/example/varese/varese/Interval", "start", "()J"⟩ : MethodName)) (z := (⟨"com/example/varese/varese/Interval", "start", "()J"⟩ : MethodName)) hown (mvT hZ (hw _ (List.mem_of_getElem? (i := 31) rfl))) (mvT hZ (hw _ (List.mem_of_getElem? (i := 32) rfl))) (notFace_of_selects (args := #[]) (mvT hZ (hw _ (List.mem_of_getElem? (i := 34) rfl)))) (mvT hZ (hw _ (List.mem_of_getElem? (i := 34) rfl))) (mvT hZ (hw _ (List.mem_of_getElem? (i := 33) rfl))) (by decide) (backOf (W := 1) (rm7 l Z a0 hw [] b2 (own_s (own_mv (p6 &&& (2 : Int32)) q3 ((own_s q1 q2) + ((((((p6).toUInt32 >>> ((2 : Int32) &&& 31).toUInt32).toInt32) &&& (3 : Int32)) - (1 : Int32))).toInt64)) (own_mv (p6 &&& (16 : Int32)) q4 ((own_e q1 q2 (own_fl (p6 &&& (1 : Int32)))) + ((((((p6).toUInt32 >>> ((5 : Int32) &&& 31).toUInt32).toInt32) &&& (3 : Int32)) - (1 : Int32))).toInt64))) T135.heap n0 Z135 Fa135) hZ (hw _ (List.mem_of_getElem? (i := 35) rfl)) (hw _ (List.mem_of_getElem? (i := 14) rfl)) (by decide) (by decide)) q147a q147c (g := (mkF m 112 #[.val (.long q1), .second, .val (.long q2), .second, .val (.long q3), .second, .val (.long q4), .second, .val (.long q5), .second, .val (.int p6), .val (.ref b1), .val (.long (own_mv (p6 &&& (2 : Int32)) q3 ((own_s q1 q2) + ((((((p6).toUInt32 >>> ((2 : Int32) &&& 31).toUInt32).toInt32) &&& (3 : Int32)) - (1 : Int32))).toInt64))), .second, .val (.long (own_mv (p6 &&& (16 : Int32)) q4 ((own_e q1 q2 (own_fl (p6 &&& (1 : Int32)))) + ((((((p6).toUInt32 >>> ((5 : Int32) &&& 31).toUInt32).toInt32) &&& (3 : Int32)) - (1 : Int32))).toInt64))), .second, .val (.ref b2), .val (.int (own_enc (own_s q1 q2) (own_e q1 q2 (own_fl (p6 &&& (1 : Int32)))) (own_s (own_mv (p6 &&& (2 : Int32)) q3 ((own_s q1 q2) + ((((((p6).toUInt32 >>> ((2 : Int32) &&& 31).toUInt32).toInt32) &&& (3 : Int32)) - (1 : Int32))).toInt64)) (own_mv (p6 &&& (16 : Int32)) q4 ((own_e q1 q2 (own_fl (p6 &&& (1 : Int32)))) + ((((((p6).toUInt32 >>> ((5 : Int32) &&& 31).toUInt32).toInt32) &&& (3 : Int32)) - (1 : Int32))).toInt64))) (own_e (own_mv (p6 &&& (2 : Int32)) q3 ((own_s q1 q2) + ((((((p6).toUInt32 >>> ((2 : Int32) &&& 31).toUInt32).toInt32) &&& (3 : Int32)) - (1 : Int32))).toInt64)) (own_mv (p6 &&& (16 : Int32)) q4 ((own_e q1 q2 (own_fl (p6 &&& (1 : Int32)))) + ((((((p6).toUInt32 >>> ((5 : Int32) &&& 31).toUInt32).toInt32) &&& (3 : Int32)) - (1 : Int32))).toInt64)) (own_fl (p6 &&& (128 : Int32)))))), .unset, .unset] [(.ref b2), (.ref b1)])) rfl (by rw [hml]; rfl) (Steps.refl _) (argsL := []) (rest := [(.ref b1)]) (lenOf pd_1 rfl) rfl (by show 2 * 0 + _ ≤ _; exact Nat.le_of_eq rfl) (hb hby at_112) (fun _ _ => ⟨rfl, e141, (by decide : 2 + 0 ≤ _), (by decide : 4 + 0 ≤ _)⟩)
    dsimp only [Pt.U, Pt.locs, Pt.cells, Pt.slots] at X146 l146 y146 z146 st146 hQ146
    subst l146 y146 z146
    obtain ⟨rfl, M146, e146⟩ := hQ146
    have N146 := Fr.app N141 M146
    have R148 : ∀ t, Steps p.tables e below (T146.setTop (mkF m 115 #[.val (.long q1), .second, .val (.long q2), .second, .val (.long q3), .second, .val (.long q4), .second, .val (.long q5), .second, .val (.int p6), .val (.ref b1), .val (.long (own_mv (p6 &&& (2 : Int32)) q3 ((own_s q1 q2) + ((((((p6).toUInt32 >>> ((2 : Int32) &&& 31).toUInt32).toInt32) &&& (3 : Int32)) - (1 : Int32))).toInt64))), .second, .val (.long (own_mv (p6 &&& (16 : Int32)) q4 ((own_e q1 q2 (own_fl (p6 &&& (1 : Int32)))) + ((((((p6).toUInt32 >>> ((5 : Int32) &&& 31).toUInt32).toInt32) &&& (3 : Int32)) - (1 : Int32))).toInt64))), .second, .val (.ref b2), .val (.int (own_enc (own_s q1 q2) (own_e q1 q2 (own_fl (p6 &&& (1 : Int32)))) (own_s (own_mv (p6 &&& (2 : Int32)) q3 ((own_s q1 q2) + ((((((p6).toUInt32 >>> ((2 : Int32) &&& 31).toUInt32).toInt32) &&& (3 : Int32)) - (1 : Int32))).toInt64)) (own_mv (p6 &&& (16 : Int32)) q4 ((own_e q1 q2 (own_fl (p6 &&& (1 : Int32)))) + ((((((p6).toUInt32 >>> ((5 : Int32) &&& 31).toUInt32).toInt32) &&& (3 : Int32)) - (1 : Int32))).toInt64))) (own_e (own_mv (p6 &&& (2 : Int32)) q3 ((own_s q1 q2) + ((((((p6).toUInt32 >>> ((2 : Int32) &&& 31).toUInt32).toInt32) &&& (3 : Int32)) - (1 : Int32))).toInt64)) (own_mv (p6 &&& (16 : Int32)) q4 ((own_e q1 q2 (own_fl (p6 &&& (1 : Int32)))) + ((((((p6).toUInt32 >>> ((5 : Int32) &&& 31).toUInt32).toInt32) &&& (3 : Int32)) - (1 : Int32))).toInt64)) (own_fl (p6 &&& (128 : Int32)))))), .unset, .unset] [(.long (own_s (own_mv (p6 &&& (2 : Int32)) q3 ((own_s q1 q2) + ((((((p6).toUInt32 >>> ((2 : Int32) &&& 31).toUInt32).toInt32) &&& (3 : Int32)) - (1 : Int32))).toInt64)) (own_mv (p6 &&& (16 : Int32)) q4 ((own_e q1 q2 (own_fl (p6 &&& (1 : Int32)))) + ((((((p6).toUInt32 >>> ((5 : Int32) &&& 31).toUInt32).toInt32) &&& (3 : Int32)) - (1 : Int32))).toInt64)))), (.ref b1)])) t → Steps p.tables e below (s₁.setTop (mkF m 0 #[.val (.long q1), .second, .val (.long q2), .second, .val (.long q3), .second, .val (.long q4), .second, .val (.long q5), .second, .val (.int p6), .unset, .unset, .unset, .unset, .unset, .unset, .unset, .unset, .unset] [])) t := fun t k => R144 t (st146.trans k)
    obtain ⟨_, _, ⟨T149, L149, k149, n149⟩, -, X149, ⟨Lc149, hQ149, l149, y149, z149⟩, st149⟩ := Jvm.LawKit.callS X146 hx (y := (⟨"com/example/varese/varese/IntervalEnclosesPinLaw", "in", "(Lcom/example/varese/varese/Interval;J)Z"⟩ : MethodName)) hown (mvT hZ (hw _ (List.mem_of_getElem? (i := 41) rfl))) (mvT hZ (hw _ (List.mem_of_getElem? (i := 42) rfl))) (mvT hZ (hw _ (List.mem_of_getElem? (i := 2) rfl))) (mvT hZ (hw _ (List.mem_of_getElem? (i := 43) rfl))) (by decide) (backOf (W := 0) (rm9 l Z a0 hw [] b1 (own_s (own_mv (p6 &&& (2 : Int32)) q3 ((own_s q1 q2) + ((((((p6).toUInt32 >>> ((2 : Int32) &&& 31).toUInt32).toInt32) &&& (3 : Int32)) - (1 : Int32))).toInt64)) (own_mv (p6 &&& (16 : Int32)) q4 ((own_e q1 q2 (own_fl (p6 &&& (1 : Int32)))) + ((((((p6).toUInt32 >>> ((5 : Int32) &&& 31).toUInt32).toInt32) &&& (3 : Int32)) - (1 : Int32))).toInt64))) (own_s q1 q2) (own_e q1 q2 (own_fl (p6 &&& (1 : Int32)))) T135.heap n0 Z135 E_136 F_137 F_138) hZ (hw _ (List.mem_of_getElem? (i := 43) rfl)) (hw _ (List.mem_of_getElem? (i := 2) rfl)) (by decide) (by decide)) (g := (mkF m 115 #[.val (.long q1), .second, .val (.long q2), .second, .val (.long q3), .second, .val (.long q4), .second, .val (.long q5), .second, .val (.int p6), .val (.ref b1), .val (.long (own_mv (p6 &&& (2 : Int32)) q3 ((own_s q1 q2) + ((((((p6).toUInt32 >>> ((2 : Int32) &&& 31).toUInt32).toInt32) &&& (3 : Int32)) - (1 : Int32))).toInt64))), .second, .val (.long (own_mv (p6 &&& (16 : Int32)) q4 ((own_e q1 q2 (own_fl (p6 &&& (1 : Int32)))) + ((((((p6).toUInt32 >>> ((5 : Int32) &&& 31).toUInt32).toInt32) &&& (3 : Int32)) - (1 : Int32))).toInt64))), .second, .val (.ref b2), .val (.int (own_enc (own_s q1 q2) (own_e q1 q2 (own_fl (p6 &&& (1 : Int32)))) (own_s (own_mv (p6 &&& (2 : Int32)) q3 ((own_s q1 q2) + ((((((p6).toUInt32 >>> ((2 : Int32) &&& 31).toUInt32).toInt32) &&& (3 : Int32)) - (1 : Int32))).toInt64)) (own_mv (p6 &&& (16 : Int32)) q4 ((own_e q1 q2 (own_fl (p6 &&& (1 : Int32)))) + ((((((p6).toUInt32 >>> ((5 : Int32) &&& 31).toUInt32).toInt32) &&& (3 : Int32)) - (1 : Int32))).toInt64))) (own_e (own_mv (p6 &&& (2 : Int32)) q3 ((own_s q1 q2) + ((((((p6).toUInt32 >>> ((2 : Int32) &&& 31).toUInt32).toInt32) &&& (3 : Int32)) - (1 : Int32))).toInt64)) (own_mv (p6 &&& (16 : Int32)) q4 ((own_e q1 q2 (own_fl (p6 &&& (1 : Int32)))) + ((((((p6).toUInt32 >>> ((5 : Int32) &&& 31).toUInt32).toInt32) &&& (3 : Int32)) - (1 : Int32))).toInt64)) (own_fl (p6 &&& (128 : Int32)))))), .unset, .unset] [(.long (own_s (own_mv (p6 &&& (2 : Int32)) q3 ((own_s q1 q2) + ((((((p6).toUInt32 >>> ((2 : Int32) &&& 31).toUInt32).toInt32) &&& (3 : Int32)) - (1 : Int32))).toInt64)) (own_mv (p6 &&& (16 : Int32)) q4 ((own_e q1 q2 (own_fl (p6 &&& (1 : Int32)))) + ((((((p6).toUInt32 >>> ((5 : Int32) &&& 31).toUInt32).toInt32) &&& (3 : Int32)) - (1 : Int32))).toInt64)))), (.ref b1)])) rfl (by rw [hml]; rfl) (argsL := [(.ref b1), (.long (own_s (own_mv (p6 &&& (2 : Int32)) q3 ((own_s q1 q2) + ((((((p6).toUInt32 >>> ((2 : Int32) &&& 31).toUInt32).toInt32) &&& (3 : Int32)) - (1 : Int32))).toInt64)) (own_mv (p6 &&& (16 : Int32)) q4 ((own_e q1 q2 (own_fl (p6 &&& (1 : Int32)))) + ((((((p6).toUInt32 >>> ((5 : Int32) &&& 31).toUInt32).toInt32) &&& (3 : Int32)) - (1 : Int32))).toInt64))))]) (rest := []) (lenOf pd_6 rfl) rfl (by show 2 * 0 + _ ≤ _; exact Nat.le_of_eq rfl) (hb hby at_115) (fun _ _ => ⟨rfl, e146, (by decide : 2 + 0 ≤ _), (by decide : 4 + 0 ≤ _)⟩)
    dsimp only [Pt.U, Pt.locs, Pt.cells, Pt.slots] at X149 l149 y149 z149 st149 hQ149
    subst l149 y149 z149
    obtain ⟨rfl, M149, e149⟩ := hQ149
    have N149 := Fr.app N146 M149
    have R150 : ∀ t, Steps p.tables e below (T149.setTop (mkF m 118 #[.val (.long q1), .second, .val (.long q2), .second, .val (.long q3), .second, .val (.long q4), .second, .val (.long q5), .second, .val (.int p6), .val (.ref b1), .val (.long (own_mv (p6 &&& (2 : Int32)) q3 ((own_s q1 q2) + ((((((p6).toUInt32 >>> ((2 : Int32) &&& 31).toUInt32).toInt32) &&& (3 : Int32)) - (1 : Int32))).toInt64))), .second, .val (.long (own_mv (p6 &&& (16 : Int32)) q4 ((own_e q1 q2 (own_fl (p6 &&& (1 : Int32)))) + ((((((p6).toUInt32 >>> ((5 : Int32) &&& 31).toUInt32).toInt32) &&& (3 : Int32)) - (1 : Int32))).toInt64))), .second, .val (.ref b2), .val (.int (own_enc (own_s q1 q2) (own_e q1 q2 (own_fl (p6 &&& (1 : Int32)))) (own_s (own_mv (p6 &&& (2 : Int32)) q3 ((own_s q1 q2) + ((((((p6).toUInt32 >>> ((2 : Int32) &&& 31).toUInt32).toInt32) &&& (3 : Int32)) - (1 : Int32))).toInt64)) (own_mv (p6 &&& (16 : Int32)) q4 ((own_e q1 q2 (own_fl (p6 &&& (1 : Int32)))) + ((((((p6).toUInt32 >>> ((5 : Int32) &&& 31).toUInt32).toInt32) &&& (3 : Int32)) - (1 : Int32))).toInt64))) (own_e (own_mv (p6 &&& (2 : Int32)) q3 ((own_s q1 q2) + ((((((p6).toUInt32 >>> ((2 : Int32) &&& 31).toUInt32).toInt32) &&& (3 : Int32)) - (1 : Int32))).toInt64)) (own_mv (p6 &&& (16 : Int32)) q4 ((own_e q1 q2 (own_fl (p6 &&& (1 : Int32)))) + ((((((p6).toUInt32 >>> ((5 : Int32) &&& 31).toUInt32).toInt32) &&& (3 : Int32)) - (1 : Int32))).toInt64)) (own_fl (p6 &&& (128 : Int32)))))), .unset, .unset] [(.int (own_in (own_s q1 q2) (own_e q1 q2 (own_fl (p6 &&& (1 : Int32)))) (own_s (own_mv (p6 &&& (2 : Int32)) q3 ((own_s q1 q2) + ((((((p6).toUInt32 >>> ((2 : Int32) &&& 31).toUInt32).toInt32) &&& (3 : Int32)) - (1 : Int32))).toInt64)) (own_mv (p6 &&& (16 : Int32)) q4 ((own_e q1 q2 (own_fl (p6 &&& (1 : Int32)))) + ((((((p6).toUInt32 >>> ((5 : Int32) &&& 31).toUInt32).toInt32) &&& (3 : Int32)) - (1 : Int32))).toInt64)))))])) t → Steps p.tables e below (s₁.setTop (mkF m 0 #[.val (.long q1), .second, .val (.long q2), .second, .val (.long q3), .second, .val (.long q4), .second, .val (.long q5), .second, .val (.int p6), .unset, .unset, .unset, .unset, .unset, .unset, .unset, .unset, .unset] [])) t := fun t k => R148 t (st149 _ k)
    by_cases hc : (own_in (own_s q1 q2) (own_e q1 q2 (own_fl (p6 &&& (1 : Int32)))) (own_s (own_mv (p6 &&& (2 : Int32)) q3 ((own_s q1 q2) + ((((((p6).toUInt32 >>> ((2 : Int32) &&& 31).toUInt32).toInt32) &&& (3 : Int32)) - (1 : Int32))).toInt64)) (own_mv (p6 &&& (16 : Int32)) q4 ((own_e q1 q2 (own_fl (p6 &&& (1 : Int32)))) + ((((((p6).toUInt32 >>> ((5 : Int32) &&& 31).toUInt32).toInt32) &&& (3 : Int32)) - (1 : Int32))).toInt64)))) = (0 : Int32)
    · have R151 : ∀ t, Steps p.tables e below (T149.setTop (mkF m 138 #[.val (.long q1), .second, .val (.long q2), .second, .val (.long q3), .second, .val (.long q4), .second, .val (.long q5), .second, .val (.int p6), .val (.ref b1), .val (.long (own_mv (p6 &&& (2 : Int32)) q3 ((own_s q1 q2) + ((((((p6).toUInt32 >>> ((2 : Int32) &&& 31).toUInt32).toInt32) &&& (3 : Int32)) - (1 : Int32))).toInt64))), .second, .val (.long (own_mv (p6 &&& (16 : Int32)) q4 ((own_e q1 q2 (own_fl (p6 &&& (1 : Int32)))) + ((((((p6).toUInt32 >>> ((5 : Int32) &&& 31).toUInt32).toInt32) &&& (3 : Int32)) - (1 : Int32))).toInt64))), .second, .val (.ref b2), .val (.int (own_enc (own_s q1 q2) (own_e q1 q2 (own_fl (p6 &&& (1 : Int32)))) (own_s (own_mv (p6 &&& (2 : Int32)) q3 ((own_s q1 q2) + ((((((p6).toUInt32 >>> ((2 : Int32) &&& 31).toUInt32).toInt32) &&& (3 : Int32)) - (1 : Int32))).toInt64)) (own_mv (p6 &&& (16 : Int32)) q4 ((own_e q1 q2 (own_fl (p6 &&& (1 : Int32)))) + ((((((p6).toUInt32 >>> ((5 : Int32) &&& 31).toUInt32).toInt32) &&& (3 : Int32)) - (1 : Int32))).toInt64))) (own_e (own_mv (p6 &&& (2 : Int32)) q3 ((own_s q1 q2) + ((((((p6).toUInt32 >>> ((2 : Int32) &&& 31).toUInt32).toInt32) &&& (3 : Int32)) - (1 : Int32))).toInt64)) (own_mv (p6 &&& (16 : Int32)) q4 ((own_e q1 q2 (own_fl (p6 &&& (1 : Int32)))) + ((((((p6).toUInt32 >>> ((5 : Int32) &&& 31).toUInt32).toInt32) &&& (3 : Int32)) - (1 : Int32))).toInt64)) (own_fl (p6 &&& (128 : Int32)))))), .unset, .unset] [])) t → Steps p.tables e below (s₁.setTop (mkF m 0 #[.val (.long q1), .second, .val (.long q2), .second, .val (.long q3), .second, .val (.long q4), .second, .val (.long q5), .second, .val (.int p6), .unset, .unset, .unset, .unset, .unset, .unset, .unset, .unset, .unset] [])) t := by
        intro t k
        refine R150 t ?_
        refine XS.ifYes X149.here hx rfl (pc0 := 118) (pc' := 138) rfl (hb hby at_118) rfl ((if0 _ _).trans (teq hc).1) (by decide) (by decide) ?_
        exact k
      have R152 : ∀ t, Steps p.tables e below (T149.setTop (mkF m 141 #[.val (.long q1), .second, .val (.long q2), .second, .val (.long q3), .second, .val (.long q4), .second, .val (.long q5), .second, .val (.int p6), .val (.ref b1), .val (.long (own_mv (p6 &&& (2 : Int32)) q3 ((own_s q1 q2) + ((((((p6).toUInt32 >>> ((2 : Int32) &&& 31).toUInt32).toInt32) &&& (3 : Int32)) - (1 : Int32))).toInt64))), .second, .val (.long (own_mv (p6 &&& (16 : Int32)) q4 ((own_e q1 q2 (own_fl (p6 &&& (1 : Int32)))) + ((((((p6).toUInt32 >>> ((5 : Int32) &&& 31).toUInt32).toInt32) &&& (3 : Int32)) - (1 : Int32))).toInt64))), .second, .val (.ref b2), .val (.int (own_enc (own_s q1 q2) (own_e q1 q2 (own_fl (p6 &&& (1 : Int32)))) (own_s (own_mv (p6 &&& (2 : Int32)) q3 ((own_s q1 q2) + ((((((p6).toUInt32 >>> ((2 : Int32) &&& 31).toUInt32).toInt32) &&& (3 : Int32)) - (1 : Int32))).toInt64)) (own_mv (p6 &&& (16 : Int32)) q4 ((own_e q1 q2 (own_fl (p6 &&& (1 : Int32)))) + ((((((p6).toUInt32 >>> ((5 : Int32) &&& 31).toUInt32).toInt32) &&& (3 : Int32)) - (1 : Int32))).toInt64))) (own_e (own_mv (p6 &&& (2 : Int32)) q3 ((own_s q1 q2) + ((((((p6).toUInt32 >>> ((2 : Int32) &&& 31).toUInt32).toInt32) &&& (3 : Int32)) - (1 : Int32))).toInt64)) (own_mv (p6 &&& (16 : Int32)) q4 ((own_e q1 q2 (own_fl (p6 &&& (1 : Int32)))) + ((((((p6).toUInt32 >>> ((5 : Int32) &&& 31).toUInt32).toInt32) &&& (3 : Int32)) - (1 : Int32))).toInt64)) (own_fl (p6 &&& (128 : Int32)))))), .val (.int (0 : Int32)), .unset] [])) t → Steps p.tables e below (s₁.setTop (mkF m 0 #[.val (.long q1), .second, .val (.long q2), .second, .val (.long q3), .second, .val (.long q4), .second, .val (.long q5), .second, .val (.int p6), .unset, .unset, .unset, .unset, .unset, .unset, .unset, .unset, .unset] [])) t := by
        intro t k
        refine R151 t ?_
        refine XS.iconst X149.here hx rfl (hb hby at_138) ?_
        refine XS.istore X149.here hx rfl (hb hby at_139) rfl (l' := #[.val (.long q1), .second, .val (.long q2), .second, .val (.long q3), .second, .val (.long q4), .second, .val (.long q5), .second, .val (.int p6), .val (.ref b1), .val (.long (own_mv (p6 &&& (2 : Int32)) q3 ((own_s q1 q2) + ((((((p6).toUInt32 >>> ((2 : Int32) &&& 31).toUInt32).toInt32) &&& (3 : Int32)) - (1 : Int32))).toInt64))), .second, .val (.long (own_mv (p6 &&& (16 : Int32)) q4 ((own_e q1 q2 (own_fl (p6 &&& (1 : Int32)))) + ((((((p6).toUInt32 >>> ((5 : Int32) &&& 31).toUInt32).toInt32) &&& (3 : Int32)) - (1 : Int32))).toInt64))), .second, .val (.ref b2), .val (.int (own_enc (own_s q1 q2) (own_e q1 q2 (own_fl (p6 &&& (1 : Int32)))) (own_s (own_mv (p6 &&& (2 : Int32)) q3 ((own_s q1 q2) + ((((((p6).toUInt32 >>> ((2 : Int32) &&& 31).toUInt32).toInt32) &&& (3 : Int32)) - (1 : Int32))).toInt64)) (own_mv (p6 &&& (16 : Int32)) q4 ((own_e q1 q2 (own_fl (p6 &&& (1 : Int32)))) + ((((((p6).toUInt32 >>> ((5 : Int32) &&& 31).toUInt32).toInt32) &&& (3 : Int32)) - (1 : Int32))).toInt64))) (own_e (own_mv (p6 &&& (2 : Int32)) q3 ((own_s q1 q2) + ((((((p6).toUInt32 >>> ((2 : Int32) &&& 31).toUInt32).toInt32) &&& (3 : Int32)) - (1 : Int32))).toInt64)) (own_mv (p6 &&& (16 : Int32)) q4 ((own_e q1 q2 (own_fl (p6 &&& (1 : Int32)))) + ((((((p6).toUInt32 >>> ((5 : Int32) &&& 31).toUInt32).toInt32) &&& (3 : Int32)) - (1 : Int32))).toInt64)) (own_fl (p6 &&& (128 : Int32)))))), .val (.int (0 : Int32)), .unset]) rfl ?_
        exact k
      rw [show (own_exp (own_in (own_s q1 q2) (own_e q1 q2 (own_fl (p6 &&& (1 : Int32)))) (own_s (own_mv (p6 &&& (2 : Int32)) q3 ((own_s q1 q2) + ((((((p6).toUInt32 >>> ((2 : Int32) &&& 31).toUInt32).toInt32) &&& (3 : Int32)) - (1 : Int32))).toInt64)) (own_mv (p6 &&& (16 : Int32)) q4 ((own_e q1 q2 (own_fl (p6 &&& (1 : Int32)))) + ((((((p6).toUInt32 >>> ((5 : Int32) &&& 31).toUInt32).toInt32) &&& (3 : Int32)) - (1 : Int32))).toInt64)))) (own_in (own_s q1 q2) (own_e q1 q2 (own_fl (p6 &&& (1 : Int32)))) (own_e (own_mv (p6 &&& (2 : Int32)) q3 ((own_s q1 q2) + ((((((p6).toUInt32 >>> ((2 : Int32) &&& 31).toUInt32).toInt32) &&& (3 : Int32)) - (1 : Int32))).toInt64)) (own_mv (p6 &&& (16 : Int32)) q4 ((own_e q1 q2 (own_fl (p6 &&& (1 : Int32)))) + ((((((p6).toUInt32 >>> ((5 : Int32) &&& 31).toUInt32).toInt32) &&& (3 : Int32)) - (1 : Int32))).toInt64)) (own_fl (p6 &&& (128 : Int32)))))) = 0 from if_pos hc]
      exact ⟨_, _, X149, N149, e149, R152⟩
    · have R153 : ∀ t, Steps p.tables e below (T149.setTop (mkF m 121 #[.val (.long q1), .second, .val (.long q2), .second, .val (.long q3), .second, .val (.long q4), .second, .val (.long q5), .second, .val (.int p6), .val (.ref b1), .val (.long (own_mv (p6 &&& (2 : Int32)) q3 ((own_s q1 q2) + ((((((p6).toUInt32 >>> ((2 : Int32) &&& 31).toUInt32).toInt32) &&& (3 : Int32)) - (1 : Int32))).toInt64))), .second, .val (.long (own_mv (p6 &&& (16 : Int32)) q4 ((own_e q1 q2 (own_fl (p6 &&& (1 : Int32)))) + ((((((p6).toUInt32 >>> ((5 : Int32) &&& 31).toUInt32).toInt32) &&& (3 : Int32)) - (1 : Int32))).toInt64))), .second, .val (.ref b2), .val (.int (own_enc (own_s q1 q2) (own_e q1 q2 (own_fl (p6 &&& (1 : Int32)))) (own_s (own_mv (p6 &&& (2 : Int32)) q3 ((own_s q1 q2) + ((((((p6).toUInt32 >>> ((2 : Int32) &&& 31).toUInt32).toInt32) &&& (3 : Int32)) - (1 : Int32))).toInt64)) (own_mv (p6 &&& (16 : Int32)) q4 ((own_e q1 q2 (own_fl (p6 &&& (1 : Int32)))) + ((((((p6).toUInt32 >>> ((5 : Int32) &&& 31).toUInt32).toInt32) &&& (3 : Int32)) - (1 : Int32))).toInt64))) (own_e (own_mv (p6 &&& (2 : Int32)) q3 ((own_s q1 q2) + ((((((p6).toUInt32 >>> ((2 : Int32) &&& 31).toUInt32).toInt32) &&& (3 : Int32)) - (1 : Int32))).toInt64)) (own_mv (p6 &&& (16 : Int32)) q4 ((own_e q1 q2 (own_fl (p6 &&& (1 : Int32)))) + ((((((p6).toUInt32 >>> ((5 : Int32) &&& 31).toUInt32).toInt32) &&& (3 : Int32)) - (1 : Int32))).toInt64)) (own_fl (p6 &&& (128 : Int32)))))), .unset, .unset] [])) t → Steps p.tables e below (s₁.setTop (mkF m 0 #[.val (.long q1), .second, .val (.long q2), .second, .val (.long q3), .second, .val (.long q4), .second, .val (.long q5), .second, .val (.int p6), .unset, .unset, .unset, .unset, .unset, .unset, .unset, .unset, .unset] [])) t := by
        intro t k
        refine R150 t ?_
        refine XS.ifNo X149.here hx rfl (hb hby at_118) rfl ((if0 _ _).trans (feq hc).1) ?_
        exact k
      have R154 : ∀ t, Steps p.tables e below (T149.setTop (mkF m 125 #[.val (.long q1), .second, .val (.long q2), .second, .val (.long q3), .second, .val (.long q4), .second, .val (.long q5), .second, .val (.int p6), .val (.ref b1), .val (.long (own_mv (p6 &&& (2 : Int32)) q3 ((own_s q1 q2) + ((((((p6).toUInt32 >>> ((2 : Int32) &&& 31).toUInt32).toInt32) &&& (3 : Int32)) - (1 : Int32))).toInt64))), .second, .val (.long (own_mv (p6 &&& (16 : Int32)) q4 ((own_e q1 q2 (own_fl (p6 &&& (1 : Int32)))) + ((((((p6).toUInt32 >>> ((5 : Int32) &&& 31).toUInt32).toInt32) &&& (3 : Int32)) - (1 : Int32))).toInt64))), .second, .val (.ref b2), .val (.int (own_enc (own_s q1 q2) (own_e q1 q2 (own_fl (p6 &&& (1 : Int32)))) (own_s (own_mv (p6 &&& (2 : Int32)) q3 ((own_s q1 q2) + ((((((p6).toUInt32 >>> ((2 : Int32) &&& 31).toUInt32).toInt32) &&& (3 : Int32)) - (1 : Int32))).toInt64)) (own_mv (p6 &&& (16 : Int32)) q4 ((own_e q1 q2 (own_fl (p6 &&& (1 : Int32)))) + ((((((p6).toUInt32 >>> ((5 : Int32) &&& 31).toUInt32).toInt32) &&& (3 : Int32)) - (1 : Int32))).toInt64))) (own_e (own_mv (p6 &&& (2 : Int32)) q3 ((own_s q1 q2) + ((((((p6).toUInt32 >>> ((2 : Int32) &&& 31).toUInt32).toInt32) &&& (3 : Int32)) - (1 : Int32))).toInt64)) (own_mv (p6 &&& (16 : Int32)) q4 ((own_e q1 q2 (own_fl (p6 &&& (1 : Int32)))) + ((((((p6).toUInt32 >>> ((5 : Int32) &&& 31).toUInt32).toInt32) &&& (3 : Int32)) - (1 : Int32))).toInt64)) (own_fl (p6 &&& (128 : Int32)))))), .unset, .unset] [(.ref b2), (.ref b1)])) t → Steps p.tables e below (s₁.setTop (mkF m 0 #[.val (.long q1), .second, .val (.long q2), .second, .val (.long q3), .second, .val (.long q4), .second, .val (.long q5), .second, .val (.int p6), .unset, .unset, .unset, .unset, .unset, .unset, .unset, .unset, .unset] [])) t := by
        intro t k
        refine R153 t ?_
        refine XS.aload X149.here hx rfl (hb hby at_121) rfl rfl ?_
        refine XS.aload X149.here hx rfl (hb hby at_123) rfl rfl ?_
        exact k
      obtain ⟨_, _, q156a, q156b, q156c⟩ := isOf hZ e149 Eo135
      obtain ⟨_, _, ⟨T155, L155, k155, n155⟩, -, X155, ⟨Lc155, hQ155, l155, y155, z155⟩, st155⟩ := X149.virtualBack hx (y := (⟨"com/example/varese/varese/Interval", "end", "()J"⟩ : MethodName)) (z := (⟨"com/example/varese/varese/Interval", "end", "()J"⟩ : MethodName)) hown (mvT hZ (hw _ (List.mem_of_getElem? (i := 44) rfl))) (mvT hZ (hw _ (List.mem_of_getElem? (i := 45) rfl))) (notFace_of_selects (args := #[]) (mvT hZ (hw _ (List.mem_of_getElem? (i := 47) rfl)))) (mvT hZ (hw _ (List.mem_of_getElem? (i := 47) rfl))) (mvT hZ (hw _ (List.mem_of_getElem? (i := 46) rfl))) (by decide) (backOf (W := 1) (rm10 l Z a0 hw [] b2 (own_e (own_mv (p6 &&& (2 : Int32)) q3 ((own_s q1 q2) + ((((((p6).toUInt32 >>> ((2 : Int32) &&& 31).toUInt32).toInt32) &&& (3 : Int32)) - (1 : Int32))).toInt64)) (own_mv (p6 &&& (16 : Int32)) q4 ((own_e q1 q2 (own_fl (p6 &&& (1 : Int32)))) + ((((((p6).toUInt32 >>> ((5 : Int32) &&& 31).toUInt32).toInt32) &&& (3 : Int32)) - (1 : Int32))).toInt64)) (own_fl (p6 &&& (128 : Int32)))) T135.heap n0 Z135 Fb135) hZ (hw _ (List.mem_of_getElem? (i := 48) rfl)) (hw _ (List.mem_of_getElem? (i := 14) rfl)) (by decide) (by decide)) q156a q156c (g := (mkF m 125 #[.val (.long q1), .second, .val (.long q2), .second, .val (.long q3), .second, .val (.long q4), .second, .val (.long q5), .second, .val (.int p6), .val (.ref b1), .val (.long (own_mv (p6 &&& (2 : Int32)) q3 ((own_s q1 q2) + ((((((p6).toUInt32 >>> ((2 : Int32) &&& 31).toUInt32).toInt32) &&& (3 : Int32)) - (1 : Int32))).toInt64))), .second, .val (.long (own_mv (p6 &&& (16 : Int32)) q4 ((own_e q1 q2 (own_fl (p6 &&& (1 : Int32)))) + ((((((p6).toUInt32 >>> ((5 : Int32) &&& 31).toUInt32).toInt32) &&& (3 : Int32)) - (1 : Int32))).toInt64))), .second, .val (.ref b2), .val (.int (own_enc (own_s q1 q2) (own_e q1 q2 (own_fl (p6 &&& (1 : Int32)))) (own_s (own_mv (p6 &&& (2 : Int32)) q3 ((own_s q1 q2) + ((((((p6).toUInt32 >>> ((2 : Int32) &&& 31).toUInt32).toInt32) &&& (3 : Int32)) - (1 : Int32))).toInt64)) (own_mv (p6 &&& (16 : Int32)) q4 ((own_e q1 q2 (own_fl (p6 &&& (1 : Int32)))) + ((((((p6).toUInt32 >>> ((5 : Int32) &&& 31).toUInt32).toInt32) &&& (3 : Int32)) - (1 : Int32))).toInt64))) (own_e (own_mv (p6 &&& (2 : Int32)) q3 ((own_s q1 q2) + ((((((p6).toUInt32 >>> ((2 : Int32) &&& 31).toUInt32).toInt32) &&& (3 : Int32)) - (1 : Int32))).toInt64)) (own_mv (p6 &&& (16 : Int32)) q4 ((own_e q1 q2 (own_fl (p6 &&& (1 : Int32)))) + ((((((p6).toUInt32 >>> ((5 : Int32) &&& 31).toUInt32).toInt32) &&& (3 : Int32)) - (1 : Int32))).toInt64)) (own_fl (p6 &&& (128 : Int32)))))), .unset, .unset] [(.ref b2), (.ref b1)])) rfl (by rw [hml]; rfl) (Steps.refl _) (argsL := []) (rest := [(.ref b1)]) (lenOf pd_1 rfl) rfl (by show 2 * 0 + _ ≤ _; exact Nat.le_of_eq rfl) (hb hby at_125) (fun _ _ => ⟨rfl, e149, (by decide : 2 + 0 ≤ _), (by decide : 4 + 0 ≤ _)⟩)
      dsimp only [Pt.U, Pt.locs, Pt.cells, Pt.slots] at X155 l155 y155 z155 st155 hQ155
      subst l155 y155 z155
      obtain ⟨rfl, M155, e155⟩ := hQ155
      have N155 := Fr.app N149 M155
      have R157 : ∀ t, Steps p.tables e below (T155.setTop (mkF m 128 #[.val (.long q1), .second, .val (.long q2), .second, .val (.long q3), .second, .val (.long q4), .second, .val (.long q5), .second, .val (.int p6), .val (.ref b1), .val (.long (own_mv (p6 &&& (2 : Int32)) q3 ((own_s q1 q2) + ((((((p6).toUInt32 >>> ((2 : Int32) &&& 31).toUInt32).toInt32) &&& (3 : Int32)) - (1 : Int32))).toInt64))), .second, .val (.long (own_mv (p6 &&& (16 : Int32)) q4 ((own_e q1 q2 (own_fl (p6 &&& (1 : Int32)))) + ((((((p6).toUInt32 >>> ((5 : Int32) &&& 31).toUInt32).toInt32) &&& (3 : Int32)) - (1 : Int32))).toInt64))), .second, .val (.ref b2), .val (.int (own_enc (own_s q1 q2) (own_e q1 q2 (own_fl (p6 &&& (1 : Int32)))) (own_s (own_mv (p6 &&& (2 : Int32)) q3 ((own_s q1 q2) + ((((((p6).toUInt32 >>> ((2 : Int32) &&& 31).toUInt32).toInt32) &&& (3 : Int32)) - (1 : Int32))).toInt64)) (own_mv (p6 &&& (16 : Int32)) q4 ((own_e q1 q2 (own_fl (p6 &&& (1 : Int32)))) + ((((((p6).toUInt32 >>> ((5 : Int32) &&& 31).toUInt32).toInt32) &&& (3 : Int32)) - (1 : Int32))).toInt64))) (own_e (own_mv (p6 &&& (2 : Int32)) q3 ((own_s q1 q2) + ((((((p6).toUInt32 >>> ((2 : Int32) &&& 31).toUInt32).toInt32) &&& (3 : Int32)) - (1 : Int32))).toInt64)) (own_mv (p6 &&& (16 : Int32)) q4 ((own_e q1 q2 (own_fl (p6 &&& (1 : Int32)))) + ((((((p6).toUInt32 >>> ((5 : Int32) &&& 31).toUInt32).toInt32) &&& (3 : Int32)) - (1 : Int32))).toInt64)) (own_fl (p6 &&& (128 : Int32)))))), .unset, .unset] [(.long (own_e (own_mv (p6 &&& (2 : Int32)) q3 ((own_s q1 q2) + ((((((p6).toUInt32 >>> ((2 : Int32) &&& 31).toUInt32).toInt32) &&& (3 : Int32)) - (1 : Int32))).toInt64)) (own_mv (p6 &&& (16 : Int32)) q4 ((own_e q1 q2 (own_fl (p6 &&& (1 : Int32)))) + ((((((p6).toUInt32 >>> ((5 : Int32) &&& 31).toUInt32).toInt32) &&& (3 : Int32)) - (1 : Int32))).toInt64)) (own_fl (p6 &&& (128 : Int32))))), (.ref b1)])) t → Steps p.tables e below (s₁.setTop (mkF m 0 #[.val (.long q1), .second, .val (.long q2), .second, .val (.long q3), .second, .val (.long q4), .second, .val (.long q5), .second, .val (.int p6), .unset, .unset, .unset, .unset, .unset, .unset, .unset, .unset, .unset] [])) t := fun t k => R154 t (st155.trans k)
      obtain ⟨_, _, ⟨T158, L158, k158, n158⟩, -, X158, ⟨Lc158, hQ158, l158, y158, z158⟩, st158⟩ := Jvm.LawKit.callS X155 hx (y := (⟨"com/example/varese/varese/IntervalEnclosesPinLaw", "in", "(Lcom/example/varese/varese/Interval;J)Z"⟩ : MethodName)) hown (mvT hZ (hw _ (List.mem_of_getElem? (i := 41) rfl))) (mvT hZ (hw _ (List.mem_of_getElem? (i := 42) rfl))) (mvT hZ (hw _ (List.mem_of_getElem? (i := 2) rfl))) (mvT hZ (hw _ (List.mem_of_getElem? (i := 43) rfl))) (by decide) (backOf (W := 0) (rm9 l Z a0 hw [] b1 (own_e (own_mv (p6 &&& (2 : Int32)) q3 ((own_s q1 q2) + ((((((p6).toUInt32 >>> ((2 : Int32) &&& 31).toUInt32).toInt32) &&& (3 : Int32)) - (1 : Int32))).toInt64)) (own_mv (p6 &&& (16 : Int32)) q4 ((own_e q1 q2 (own_fl (p6 &&& (1 : Int32)))) + ((((((p6).toUInt32 >>> ((5 : Int32) &&& 31).toUInt32).toInt32) &&& (3 : Int32)) - (1 : Int32))).toInt64)) (own_fl (p6 &&& (128 : Int32)))) (own_s q1 q2) (own_e q1 q2 (own_fl (p6 &&& (1 : Int32)))) T135.heap n0 Z135 E_136 F_137 F_138) hZ (hw _ (List.mem_of_getElem? (i := 43) rfl)) (hw _ (List.mem_of_getElem? (i := 2) rfl)) (by decide) (by decide)) (g := (mkF m 128 #[.val (.long q1), .second, .val (.long q2), .second, .val (.long q3), .second, .val (.long q4), .second, .val (.long q5), .second, .val (.int p6), .val (.ref b1), .val (.long (own_mv (p6 &&& (2 : Int32)) q3 ((own_s q1 q2) + ((((((p6).toUInt32 >>> ((2 : Int32) &&& 31).toUInt32).toInt32) &&& (3 : Int32)) - (1 : Int32))).toInt64))), .second, .val (.long (own_mv (p6 &&& (16 : Int32)) q4 ((own_e q1 q2 (own_fl (p6 &&& (1 : Int32)))) + ((((((p6).toUInt32 >>> ((5 : Int32) &&& 31).toUInt32).toInt32) &&& (3 : Int32)) - (1 : Int32))).toInt64))), .second, .val (.ref b2), .val (.int (own_enc (own_s q1 q2) (own_e q1 q2 (own_fl (p6 &&& (1 : Int32)))) (own_s (own_mv (p6 &&& (2 : Int32)) q3 ((own_s q1 q2) + ((((((p6).toUInt32 >>> ((2 : Int32) &&& 31).toUInt32).toInt32) &&& (3 : Int32)) - (1 : Int32))).toInt64)) (own_mv (p6 &&& (16 : Int32)) q4 ((own_e q1 q2 (own_fl (p6 &&& (1 : Int32)))) + ((((((p6).toUInt32 >>> ((5 : Int32) &&& 31).toUInt32).toInt32) &&& (3 : Int32)) - (1 : Int32))).toInt64))) (own_e (own_mv (p6 &&& (2 : Int32)) q3 ((own_s q1 q2) + ((((((p6).toUInt32 >>> ((2 : Int32) &&& 31).toUInt32).toInt32) &&& (3 : Int32)) - (1 : Int32))).toInt64)) (own_mv (p6 &&& (16 : Int32)) q4 ((own_e q1 q2 (own_fl (p6 &&& (1 : Int32)))) + ((((((p6).toUInt32 >>> ((5 : Int32) &&& 31).toUInt32).toInt32) &&& (3 : Int32)) - (1 : Int32))).toInt64)) (own_fl (p6 &&& (128 : Int32)))))), .unset, .unset] [(.long (own_e (own_mv (p6 &&& (2 : Int32)) q3 ((own_s q1 q2) + ((((((p6).toUInt32 >>> ((2 : Int32) &&& 31).toUInt32).toInt32) &&& (3 : Int32)) - (1 : Int32))).toInt64)) (own_mv (p6 &&& (16 : Int32)) q4 ((own_e q1 q2 (own_fl (p6 &&& (1 : Int32)))) + ((((((p6).toUInt32 >>> ((5 : Int32) &&& 31).toUInt32).toInt32) &&& (3 : Int32)) - (1 : Int32))).toInt64)) (own_fl (p6 &&& (128 : Int32))))), (.ref b1)])) rfl (by rw [hml]; rfl) (argsL := [(.ref b1), (.long (own_e (own_mv (p6 &&& (2 : Int32)) q3 ((own_s q1 q2) + ((((((p6).toUInt32 >>> ((2 : Int32) &&& 31).toUInt32).toInt32) &&& (3 : Int32)) - (1 : Int32))).toInt64)) (own_mv (p6 &&& (16 : Int32)) q4 ((own_e q1 q2 (own_fl (p6 &&& (1 : Int32)))) + ((((((p6).toUInt32 >>> ((5 : Int32) &&& 31).toUInt32).toInt32) &&& (3 : Int32)) - (1 : Int32))).toInt64)) (own_fl (p6 &&& (128 : Int32)))))]) (rest := []) (lenOf pd_6 rfl) rfl (by show 2 * 0 + _ ≤ _; exact Nat.le_of_eq rfl) (hb hby at_128) (fun _ _ => ⟨rfl, e155, (by decide : 2 + 0 ≤ _), (by decide : 4 + 0 ≤ _)⟩)
      dsimp only [Pt.U, Pt.locs, Pt.cells, Pt.slots] at X158 l158 y158 z158 st158 hQ158
      subst l158 y158 z158
      obtain ⟨rfl, M158, e158⟩ := hQ158
      have N158 := Fr.app N155 M158
      have R159 : ∀ t, Steps p.tables e below (T158.setTop (mkF m 131 #[.val (.long q1), .second, .val (.long q2), .second, .val (.long q3), .second, .val (.long q4), .second, .val (.long q5), .second, .val (.int p6), .val (.ref b1), .val (.long (own_mv (p6 &&& (2 : Int32)) q3 ((own_s q1 q2) + ((((((p6).toUInt32 >>> ((2 : Int32) &&& 31).toUInt32).toInt32) &&& (3 : Int32)) - (1 : Int32))).toInt64))), .second, .val (.long (own_mv (p6 &&& (16 : Int32)) q4 ((own_e q1 q2 (own_fl (p6 &&& (1 : Int32)))) + ((((((p6).toUInt32 >>> ((5 : Int32) &&& 31).toUInt32).toInt32) &&& (3 : Int32)) - (1 : Int32))).toInt64))), .second, .val (.ref b2), .val (.int (own_enc (own_s q1 q2) (own_e q1 q2 (own_fl (p6 &&& (1 : Int32)))) (own_s (own_mv (p6 &&& (2 : Int32)) q3 ((own_s q1 q2) + ((((((p6).toUInt32 >>> ((2 : Int32) &&& 31).toUInt32).toInt32) &&& (3 : Int32)) - (1 : Int32))).toInt64)) (own_mv (p6 &&& (16 : Int32)) q4 ((own_e q1 q2 (own_fl (p6 &&& (1 : Int32)))) + ((((((p6).toUInt32 >>> ((5 : Int32) &&& 31).toUInt32).toInt32) &&& (3 : Int32)) - (1 : Int32))).toInt64))) (own_e (own_mv (p6 &&& (2 : Int32)) q3 ((own_s q1 q2) + ((((((p6).toUInt32 >>> ((2 : Int32) &&& 31).toUInt32).toInt32) &&& (3 : Int32)) - (1 : Int32))).toInt64)) (own_mv (p6 &&& (16 : Int32)) q4 ((own_e q1 q2 (own_fl (p6 &&& (1 : Int32)))) + ((((((p6).toUInt32 >>> ((5 : Int32) &&& 31).toUInt32).toInt32) &&& (3 : Int32)) - (1 : Int32))).toInt64)) (own_fl (p6 &&& (128 : Int32)))))), .unset, .unset] [(.int (own_in (own_s q1 q2) (own_e q1 q2 (own_fl (p6 &&& (1 : Int32)))) (own_e (own_mv (p6 &&& (2 : Int32)) q3 ((own_s q1 q2) + ((((((p6).toUInt32 >>> ((2 : Int32) &&& 31).toUInt32).toInt32) &&& (3 : Int32)) - (1 : Int32))).toInt64)) (own_mv (p6 &&& (16 : Int32)) q4 ((own_e q1 q2 (own_fl (p6 &&& (1 : Int32)))) + ((((((p6).toUInt32 >>> ((5 : Int32) &&& 31).toUInt32).toInt32) &&& (3 : Int32)) - (1 : Int32))).toInt64)) (own_fl (p6 &&& (128 : Int32))))))])) t → Steps p.tables e below (s₁.setTop (mkF m 0 #[.val (.long q1), .second, .val (.long q2), .second, .val (.long q3), .second, .val (.long q4), .second, .val (.long q5), .second, .val (.int p6), .unset, .unset, .unset, .unset, .unset, .unset, .unset, .unset, .unset] [])) t := fun t k => R157 t (st158 _ k)
      by_cases hd : (own_in (own_s q1 q2) (own_e q1 q2 (own_fl (p6 &&& (1 : Int32)))) (own_e (own_mv (p6 &&& (2 : Int32)) q3 ((own_s q1 q2) + ((((((p6).toUInt32 >>> ((2 : Int32) &&& 31).toUInt32).toInt32) &&& (3 : Int32)) - (1 : Int32))).toInt64)) (own_mv (p6 &&& (16 : Int32)) q4 ((own_e q1 q2 (own_fl (p6 &&& (1 : Int32)))) + ((((((p6).toUInt32 >>> ((5 : Int32) &&& 31).toUInt32).toInt32) &&& (3 : Int32)) - (1 : Int32))).toInt64)) (own_fl (p6 &&& (128 : Int32))))) = (0 : Int32)
      · have R160 : ∀ t, Steps p.tables e below (T158.setTop (mkF m 138 #[.val (.long q1), .second, .val (.long q2), .second, .val (.long q3), .second, .val (.long q4), .second, .val (.long q5), .second, .val (.int p6), .val (.ref b1), .val (.long (own_mv (p6 &&& (2 : Int32)) q3 ((own_s q1 q2) + ((((((p6).toUInt32 >>> ((2 : Int32) &&& 31).toUInt32).toInt32) &&& (3 : Int32)) - (1 : Int32))).toInt64))), .second, .val (.long (own_mv (p6 &&& (16 : Int32)) q4 ((own_e q1 q2 (own_fl (p6 &&& (1 : Int32)))) + ((((((p6).toUInt32 >>> ((5 : Int32) &&& 31).toUInt32).toInt32) &&& (3 : Int32)) - (1 : Int32))).toInt64))), .second, .val (.ref b2), .val (.int (own_enc (own_s q1 q2) (own_e q1 q2 (own_fl (p6 &&& (1 : Int32)))) (own_s (own_mv (p6 &&& (2 : Int32)) q3 ((own_s q1 q2) + ((((((p6).toUInt32 >>> ((2 : Int32) &&& 31).toUInt32).toInt32) &&& (3 : Int32)) - (1 : Int32))).toInt64)) (own_mv (p6 &&& (16 : Int32)) q4 ((own_e q1 q2 (own_fl (p6 &&& (1 : Int32)))) + ((((((p6).toUInt32 >>> ((5 : Int32) &&& 31).toUInt32).toInt32) &&& (3 : Int32)) - (1 : Int32))).toInt64))) (own_e (own_mv (p6 &&& (2 : Int32)) q3 ((own_s q1 q2) + ((((((p6).toUInt32 >>> ((2 : Int32) &&& 31).toUInt32).toInt32) &&& (3 : Int32)) - (1 : Int32))).toInt64)) (own_mv (p6 &&& (16 : Int32)) q4 ((own_e q1 q2 (own_fl (p6 &&& (1 : Int32)))) + ((((((p6).toUInt32 >>> ((5 : Int32) &&& 31).toUInt32).toInt32) &&& (3 : Int32)) - (1 : Int32))).toInt64)) (own_fl (p6 &&& (128 : Int32)))))), .unset, .unset] [])) t → Steps p.tables e below (s₁.setTop (mkF m 0 #[.val (.long q1), .second, .val (.long q2), .second, .val (.long q3), .second, .val (.long q4), .second, .val (.long q5), .second, .val (.int p6), .unset, .unset, .unset, .unset, .unset, .unset, .unset, .unset, .unset] [])) t := by
          intro t k
          refine R159 t ?_
          refine XS.ifYes X158.here hx rfl (pc0 := 131) (pc' := 138) rfl (hb hby at_131) rfl ((if0 _ _).trans (teq hd).1) (by decide) (by decide) ?_
          exact k
        have R161 : ∀ t, Steps p.tables e below (T158.setTop (mkF m 141 #[.val (.long q1), .second, .val (.long q2), .second, .val (.long q3), .second, .val (.long q4), .second, .val (.long q5), .second, .val (.int p6), .val (.ref b1), .val (.long (own_mv (p6 &&& (2 : Int32)) q3 ((own_s q1 q2) + ((((((p6).toUInt32 >>> ((2 : Int32) &&& 31).toUInt32).toInt32) &&& (3 : Int32)) - (1 : Int32))).toInt64))), .second, .val (.long (own_mv (p6 &&& (16 : Int32)) q4 ((own_e q1 q2 (own_fl (p6 &&& (1 : Int32)))) + ((((((p6).toUInt32 >>> ((5 : Int32) &&& 31).toUInt32).toInt32) &&& (3 : Int32)) - (1 : Int32))).toInt64))), .second, .val (.ref b2), .val (.int (own_enc (own_s q1 q2) (own_e q1 q2 (own_fl (p6 &&& (1 : Int32)))) (own_s (own_mv (p6 &&& (2 : Int32)) q3 ((own_s q1 q2) + ((((((p6).toUInt32 >>> ((2 : Int32) &&& 31).toUInt32).toInt32) &&& (3 : Int32)) - (1 : Int32))).toInt64)) (own_mv (p6 &&& (16 : Int32)) q4 ((own_e q1 q2 (own_fl (p6 &&& (1 : Int32)))) + ((((((p6).toUInt32 >>> ((5 : Int32) &&& 31).toUInt32).toInt32) &&& (3 : Int32)) - (1 : Int32))).toInt64))) (own_e (own_mv (p6 &&& (2 : Int32)) q3 ((own_s q1 q2) + ((((((p6).toUInt32 >>> ((2 : Int32) &&& 31).toUInt32).toInt32) &&& (3 : Int32)) - (1 : Int32))).toInt64)) (own_mv (p6 &&& (16 : Int32)) q4 ((own_e q1 q2 (own_fl (p6 &&& (1 : Int32)))) + ((((((p6).toUInt32 >>> ((5 : Int32) &&& 31).toUInt32).toInt32) &&& (3 : Int32)) - (1 : Int32))).toInt64)) (own_fl (p6 &&& (128 : Int32)))))), .val (.int (0 : Int32)), .unset] [])) t → Steps p.tables e below (s₁.setTop (mkF m 0 #[.val (.long q1), .second, .val (.long q2), .second, .val (.long q3), .second, .val (.long q4), .second, .val (.long q5), .second, .val (.int p6), .unset, .unset, .unset, .unset, .unset, .unset, .unset, .unset, .unset] [])) t := by
          intro t k
          refine R160 t ?_
          refine XS.iconst X158.here hx rfl (hb hby at_138) ?_
          refine XS.istore X158.here hx rfl (hb hby at_139) rfl (l' := #[.val (.long q1), .second, .val (.long q2), .second, .val (.long q3), .second, .val (.long q4), .second, .val (.long q5), .second, .val (.int p6), .val (.ref b1), .val (.long (own_mv (p6 &&& (2 : Int32)) q3 ((own_s q1 q2) + ((((((p6).toUInt32 >>> ((2 : Int32) &&& 31).toUInt32).toInt32) &&& (3 : Int32)) - (1 : Int32))).toInt64))), .second, .val (.long (own_mv (p6 &&& (16 : Int32)) q4 ((own_e q1 q2 (own_fl (p6 &&& (1 : Int32)))) + ((((((p6).toUInt32 >>> ((5 : Int32) &&& 31).toUInt32).toInt32) &&& (3 : Int32)) - (1 : Int32))).toInt64))), .second, .val (.ref b2), .val (.int (own_enc (own_s q1 q2) (own_e q1 q2 (own_fl (p6 &&& (1 : Int32)))) (own_s (own_mv (p6 &&& (2 : Int32)) q3 ((own_s q1 q2) + ((((((p6).toUInt32 >>> ((2 : Int32) &&& 31).toUInt32).toInt32) &&& (3 : Int32)) - (1 : Int32))).toInt64)) (own_mv (p6 &&& (16 : Int32)) q4 ((own_e q1 q2 (own_fl (p6 &&& (1 : Int32)))) + ((((((p6).toUInt32 >>> ((5 : Int32) &&& 31).toUInt32).toInt32) &&& (3 : Int32)) - (1 : Int32))).toInt64))) (own_e (own_mv (p6 &&& (2 : Int32)) q3 ((own_s q1 q2) + ((((((p6).toUInt32 >>> ((2 : Int32) &&& 31).toUInt32).toInt32) &&& (3 : Int32)) - (1 : Int32))).toInt64)) (own_mv (p6 &&& (16 : Int32)) q4 ((own_e q1 q2 (own_fl (p6 &&& (1 : Int32)))) + ((((((p6).toUInt32 >>> ((5 : Int32) &&& 31).toUInt32).toInt32) &&& (3 : Int32)) - (1 : Int32))).toInt64)) (own_fl (p6 &&& (128 : Int32)))))), .val (.int (0 : Int32)), .unset]) rfl ?_
          exact k
        rw [show (own_exp (own_in (own_s q1 q2) (own_e q1 q2 (own_fl (p6 &&& (1 : Int32)))) (own_s (own_mv (p6 &&& (2 : Int32)) q3 ((own_s q1 q2) + ((((((p6).toUInt32 >>> ((2 : Int32) &&& 31).toUInt32).toInt32) &&& (3 : Int32)) - (1 : Int32))).toInt64)) (own_mv (p6 &&& (16 : Int32)) q4 ((own_e q1 q2 (own_fl (p6 &&& (1 : Int32)))) + ((((((p6).toUInt32 >>> ((5 : Int32) &&& 31).toUInt32).toInt32) &&& (3 : Int32)) - (1 : Int32))).toInt64)))) (own_in (own_s q1 q2) (own_e q1 q2 (own_fl (p6 &&& (1 : Int32)))) (own_e (own_mv (p6 &&& (2 : Int32)) q3 ((own_s q1 q2) + ((((((p6).toUInt32 >>> ((2 : Int32) &&& 31).toUInt32).toInt32) &&& (3 : Int32)) - (1 : Int32))).toInt64)) (own_mv (p6 &&& (16 : Int32)) q4 ((own_e q1 q2 (own_fl (p6 &&& (1 : Int32)))) + ((((((p6).toUInt32 >>> ((5 : Int32) &&& 31).toUInt32).toInt32) &&& (3 : Int32)) - (1 : Int32))).toInt64)) (own_fl (p6 &&& (128 : Int32)))))) = 0 from (if_neg hc).trans (if_pos hd)]
        exact ⟨_, _, X158, N158, e158, R161⟩
      · have R162 : ∀ t, Steps p.tables e below (T158.setTop (mkF m 134 #[.val (.long q1), .second, .val (.long q2), .second, .val (.long q3), .second, .val (.long q4), .second, .val (.long q5), .second, .val (.int p6), .val (.ref b1), .val (.long (own_mv (p6 &&& (2 : Int32)) q3 ((own_s q1 q2) + ((((((p6).toUInt32 >>> ((2 : Int32) &&& 31).toUInt32).toInt32) &&& (3 : Int32)) - (1 : Int32))).toInt64))), .second, .val (.long (own_mv (p6 &&& (16 : Int32)) q4 ((own_e q1 q2 (own_fl (p6 &&& (1 : Int32)))) + ((((((p6).toUInt32 >>> ((5 : Int32) &&& 31).toUInt32).toInt32) &&& (3 : Int32)) - (1 : Int32))).toInt64))), .second, .val (.ref b2), .val (.int (own_enc (own_s q1 q2) (own_e q1 q2 (own_fl (p6 &&& (1 : Int32)))) (own_s (own_mv (p6 &&& (2 : Int32)) q3 ((own_s q1 q2) + ((((((p6).toUInt32 >>> ((2 : Int32) &&& 31).toUInt32).toInt32) &&& (3 : Int32)) - (1 : Int32))).toInt64)) (own_mv (p6 &&& (16 : Int32)) q4 ((own_e q1 q2 (own_fl (p6 &&& (1 : Int32)))) + ((((((p6).toUInt32 >>> ((5 : Int32) &&& 31).toUInt32).toInt32) &&& (3 : Int32)) - (1 : Int32))).toInt64))) (own_e (own_mv (p6 &&& (2 : Int32)) q3 ((own_s q1 q2) + ((((((p6).toUInt32 >>> ((2 : Int32) &&& 31).toUInt32).toInt32) &&& (3 : Int32)) - (1 : Int32))).toInt64)) (own_mv (p6 &&& (16 : Int32)) q4 ((own_e q1 q2 (own_fl (p6 &&& (1 : Int32)))) + ((((((p6).toUInt32 >>> ((5 : Int32) &&& 31).toUInt32).toInt32) &&& (3 : Int32)) - (1 : Int32))).toInt64)) (own_fl (p6 &&& (128 : Int32)))))), .unset, .unset] [])) t → Steps p.tables e below (s₁.setTop (mkF m 0 #[.val (.long q1), .second, .val (.long q2), .second, .val (.long q3), .second, .val (.long q4), .second, .val (.long q5), .second, .val (.int p6), .unset, .unset, .unset, .unset, .unset, .unset, .unset, .unset, .unset] [])) t := by
          intro t k
          refine R159 t ?_
          refine XS.ifNo X158.here hx rfl (hb hby at_131) rfl ((if0 _ _).trans (feq hd).1) ?_
          exact k
        have R163 : ∀ t, Steps p.tables e below (T158.setTop (mkF m 141 #[.val (.long q1), .second, .val (.long q2), .second, .val (.long q3), .second, .val (.long q4), .second, .val (.long q5), .second, .val (.int p6), .val (.ref b1), .val (.long (own_mv (p6 &&& (2 : Int32)) q3 ((own_s q1 q2) + ((((((p6).toUInt32 >>> ((2 : Int32) &&& 31).toUInt32).toInt32) &&& (3 : Int32)) - (1 : Int32))).toInt64))), .second, .val (.long (own_mv (p6 &&& (16 : Int32)) q4 ((own_e q1 q2 (own_fl (p6 &&& (1 : Int32)))) + ((((((p6).toUInt32 >>> ((5 : Int32) &&& 31).toUInt32).toInt32) &&& (3 : Int32)) - (1 : Int32))).toInt64))), .second, .val (.ref b2), .val (.int (own_enc (own_s q1 q2) (own_e q1 q2 (own_fl (p6 &&& (1 : Int32)))) (own_s (own_mv (p6 &&& (2 : Int32)) q3 ((own_s q1 q2) + ((((((p6).toUInt32 >>> ((2 : Int32) &&& 31).toUInt32).toInt32) &&& (3 : Int32)) - (1 : Int32))).toInt64)) (own_mv (p6 &&& (16 : Int32)) q4 ((own_e q1 q2 (own_fl (p6 &&& (1 : Int32)))) + ((((((p6).toUInt32 >>> ((5 : Int32) &&& 31).toUInt32).toInt32) &&& (3 : Int32)) - (1 : Int32))).toInt64))) (own_e (own_mv (p6 &&& (2 : Int32)) q3 ((own_s q1 q2) + ((((((p6).toUInt32 >>> ((2 : Int32) &&& 31).toUInt32).toInt32) &&& (3 : Int32)) - (1 : Int32))).toInt64)) (own_mv (p6 &&& (16 : Int32)) q4 ((own_e q1 q2 (own_fl (p6 &&& (1 : Int32)))) + ((((((p6).toUInt32 >>> ((5 : Int32) &&& 31).toUInt32).toInt32) &&& (3 : Int32)) - (1 : Int32))).toInt64)) (own_fl (p6 &&& (128 : Int32)))))), .val (.int (1 : Int32)), .unset] [])) t → Steps p.tables e below (s₁.setTop (mkF m 0 #[.val (.long q1), .second, .val (.long q2), .second, .val (.long q3), .second, .val (.long q4), .second, .val (.long q5), .second, .val (.int p6), .unset, .unset, .unset, .unset, .unset, .unset, .unset, .unset, .unset] [])) t := by
          intro t k
          refine R162 t ?_
          refine XS.iconst X158.here hx rfl (hb hby at_134) ?_
          refine XS.goto X158.here hx rfl (pc0 := 135) (pc' := 139) rfl (hb hby at_135) (by decide) (by decide) ?_
          refine XS.istore X158.here hx rfl (hb hby at_139) rfl (l' := #[.val (.long q1), .second, .val (.long q2), .second, .val (.long q3), .second, .val (.long q4), .second, .val (.long q5), .second, .val (.int p6), .val (.ref b1), .val (.long (own_mv (p6 &&& (2 : Int32)) q3 ((own_s q1 q2) + ((((((p6).toUInt32 >>> ((2 : Int32) &&& 31).toUInt32).toInt32) &&& (3 : Int32)) - (1 : Int32))).toInt64))), .second, .val (.long (own_mv (p6 &&& (16 : Int32)) q4 ((own_e q1 q2 (own_fl (p6 &&& (1 : Int32)))) + ((((((p6).toUInt32 >>> ((5 : Int32) &&& 31).toUInt32).toInt32) &&& (3 : Int32)) - (1 : Int32))).toInt64))), .second, .val (.ref b2), .val (.int (own_enc (own_s q1 q2) (own_e q1 q2 (own_fl (p6 &&& (1 : Int32)))) (own_s (own_mv (p6 &&& (2 : Int32)) q3 ((own_s q1 q2) + ((((((p6).toUInt32 >>> ((2 : Int32) &&& 31).toUInt32).toInt32) &&& (3 : Int32)) - (1 : Int32))).toInt64)) (own_mv (p6 &&& (16 : Int32)) q4 ((own_e q1 q2 (own_fl (p6 &&& (1 : Int32)))) + ((((((p6).toUInt32 >>> ((5 : Int32) &&& 31).toUInt32).toInt32) &&& (3 : Int32)) - (1 : Int32))).toInt64))) (own_e (own_mv (p6 &&& (2 : Int32)) q3 ((own_s q1 q2) + ((((((p6).toUInt32 >>> ((2 : Int32) &&& 31).toUInt32).toInt32) &&& (3 : Int32)) - (1 : Int32))).toInt64)) (own_mv (p6 &&& (16 : Int32)) q4 ((own_e q1 q2 (own_fl (p6 &&& (1 : Int32)))) + ((((((p6).toUInt32 >>> ((5 : Int32) &&& 31).toUInt32).toInt32) &&& (3 : Int32)) - (1 : Int32))).toInt64)) (own_fl (p6 &&& (128 : Int32)))))), .val (.int (1 : Int32)), .unset]) rfl ?_
          exact k
        rw [show (own_exp (own_in (own_s q1 q2) (own_e q1 q2 (own_fl (p6 &&& (1 : Int32)))) (own_s (own_mv (p6 &&& (2 : Int32)) q3 ((own_s q1 q2) + ((((((p6).toUInt32 >>> ((2 : Int32) &&& 31).toUInt32).toInt32) &&& (3 : Int32)) - (1 : Int32))).toInt64)) (own_mv (p6 &&& (16 : Int32)) q4 ((own_e q1 q2 (own_fl (p6 &&& (1 : Int32)))) + ((((((p6).toUInt32 >>> ((5 : Int32) &&& 31).toUInt32).toInt32) &&& (3 : Int32)) - (1 : Int32))).toInt64)))) (own_in (own_s q1 q2) (own_e q1 q2 (own_fl (p6 &&& (1 : Int32)))) (own_e (own_mv (p6 &&& (2 : Int32)) q3 ((own_s q1 q2) + ((((((p6).toUInt32 >>> ((2 : Int32) &&& 31).toUInt32).toInt32) &&& (3 : Int32)) - (1 : Int32))).toInt64)) (own_mv (p6 &&& (16 : Int32)) q4 ((own_e q1 q2 (own_fl (p6 &&& (1 : Int32)))) + ((((((p6).toUInt32 >>> ((5 : Int32) &&& 31).toUInt32).toInt32) &&& (3 : Int32)) - (1 : Int32))).toInt64)) (own_fl (p6 &&& (128 : Int32)))))) = 1 from (if_neg hc).trans (if_neg hd)]
        exact ⟨_, _, X158, N158, e158, R163⟩
  have R164 : ∀ t, Steps p.tables e below (T145.setTop (mkF m 143 #[.val (.long q1), .second, .val (.long q2), .second, .val (.long q3), .second, .val (.long q4), .second, .val (.long q5), .second, .val (.int p6), .val (.ref b1), .val (.long (own_mv (p6 &&& (2 : Int32)) q3 ((own_s q1 q2) + ((((((p6).toUInt32 >>> ((2 : Int32) &&& 31).toUInt32).toInt32) &&& (3 : Int32)) - (1 : Int32))).toInt64))), .second, .val (.long (own_mv (p6 &&& (16 : Int32)) q4 ((own_e q1 q2 (own_fl (p6 &&& (1 : Int32)))) + ((((((p6).toUInt32 >>> ((5 : Int32) &&& 31).toUInt32).toInt32) &&& (3 : Int32)) - (1 : Int32))).toInt64))), .second, .val (.ref b2), .val (.int (own_enc (own_s q1 q2) (own_e q1 q2 (own_fl (p6 &&& (1 : Int32)))) (own_s (own_mv (p6 &&& (2 : Int32)) q3 ((own_s q1 q2) + ((((((p6).toUInt32 >>> ((2 : Int32) &&& 31).toUInt32).toInt32) &&& (3 : Int32)) - (1 : Int32))).toInt64)) (own_mv (p6 &&& (16 : Int32)) q4 ((own_e q1 q2 (own_fl (p6 &&& (1 : Int32)))) + ((((((p6).toUInt32 >>> ((5 : Int32) &&& 31).toUInt32).toInt32) &&& (3 : Int32)) - (1 : Int32))).toInt64))) (own_e (own_mv (p6 &&& (2 : Int32)) q3 ((own_s q1 q2) + ((((((p6).toUInt32 >>> ((2 : Int32) &&& 31).toUInt32).toInt32) &&& (3 : Int32)) - (1 : Int32))).toInt64)) (own_mv (p6 &&& (16 : Int32)) q4 ((own_e q1 q2 (own_fl (p6 &&& (1 : Int32)))) + ((((((p6).toUInt32 >>> ((5 : Int32) &&& 31).toUInt32).toInt32) &&& (3 : Int32)) - (1 : Int32))).toInt64)) (own_fl (p6 &&& (128 : Int32)))))), .val (.int (own_exp (own_in (own_s q1 q2) (own_e q1 q2 (own_fl (p6 &&& (1 : Int32)))) (own_s (own_mv (p6 &&& (2 : Int32)) q3 ((own_s q1 q2) + ((((((p6).toUInt32 >>> ((2 : Int32) &&& 31).toUInt32).toInt32) &&& (3 : Int32)) - (1 : Int32))).toInt64)) (own_mv (p6 &&& (16 : Int32)) q4 ((own_e q1 q2 (own_fl (p6 &&& (1 : Int32)))) + ((((((p6).toUInt32 >>> ((5 : Int32) &&& 31).toUInt32).toInt32) &&& (3 : Int32)) - (1 : Int32))).toInt64)))) (own_in (own_s q1 q2) (own_e q1 q2 (own_fl (p6 &&& (1 : Int32)))) (own_e (own_mv (p6 &&& (2 : Int32)) q3 ((own_s q1 q2) + ((((((p6).toUInt32 >>> ((2 : Int32) &&& 31).toUInt32).toInt32) &&& (3 : Int32)) - (1 : Int32))).toInt64)) (own_mv (p6 &&& (16 : Int32)) q4 ((own_e q1 q2 (own_fl (p6 &&& (1 : Int32)))) + ((((((p6).toUInt32 >>> ((5 : Int32) &&& 31).toUInt32).toInt32) &&& (3 : Int32)) - (1 : Int32))).toInt64)) (own_fl (p6 &&& (128 : Int32))))))), .unset] [(.int (own_enc (own_s q1 q2) (own_e q1 q2 (own_fl (p6 &&& (1 : Int32)))) (own_s (own_mv (p6 &&& (2 : Int32)) q3 ((own_s q1 q2) + ((((((p6).toUInt32 >>> ((2 : Int32) &&& 31).toUInt32).toInt32) &&& (3 : Int32)) - (1 : Int32))).toInt64)) (own_mv (p6 &&& (16 : Int32)) q4 ((own_e q1 q2 (own_fl (p6 &&& (1 : Int32)))) + ((((((p6).toUInt32 >>> ((5 : Int32) &&& 31).toUInt32).toInt32) &&& (3 : Int32)) - (1 : Int32))).toInt64))) (own_e (own_mv (p6 &&& (2 : Int32)) q3 ((own_s q1 q2) + ((((((p6).toUInt32 >>> ((2 : Int32) &&& 31).toUInt32).toInt32) &&& (3 : Int32)) - (1 : Int32))).toInt64)) (own_mv (p6 &&& (16 : Int32)) q4 ((own_e q1 q2 (own_fl (p6 &&& (1 : Int32)))) + ((((((p6).toUInt32 >>> ((5 : Int32) &&& 31).toUInt32).toInt32) &&& (3 : Int32)) - (1 : Int32))).toInt64)) (own_fl (p6 &&& (128 : Int32))))))])) t → Steps p.tables e below (s₁.setTop (mkF m 0 #[.val (.long q1), .second, .val (.long q2), .second, .val (.long q3), .second, .val (.long q4), .second, .val (.long q5), .second, .val (.int p6), .unset, .unset, .unset, .unset, .unset, .unset, .unset, .unset, .unset] [])) t := by
    intro t k
    refine R145 t ?_
    refine XS.iload X145.here hx rfl (hb hby at_141) rfl ?_
    exact k
  obtain ⟨T165, L165, X165, N165, e165, R165⟩ : ∃ (T' : State) (L' : List Loc), Stand p l e room_1 s m #[(.long q1), (.long q2), (.long q3), (.long q4), (.long q5), (.int p6)] below meth c T' L' 2 4 ∧ Fr n0 L' ∧ T'.heap = T135.heap ∧ (∀ t, Steps p.tables e below (T'.setTop (mkF m 173 #[.val (.long q1), .second, .val (.long q2), .second, .val (.long q3), .second, .val (.long q4), .second, .val (.long q5), .second, .val (.int p6), .val (.ref b1), .val (.long (own_mv (p6 &&& (2 : Int32)) q3 ((own_s q1 q2) + ((((((p6).toUInt32 >>> ((2 : Int32) &&& 31).toUInt32).toInt32) &&& (3 : Int32)) - (1 : Int32))).toInt64))), .second, .val (.long (own_mv (p6 &&& (16 : Int32)) q4 ((own_e q1 q2 (own_fl (p6 &&& (1 : Int32)))) + ((((((p6).toUInt32 >>> ((5 : Int32) &&& 31).toUInt32).toInt32) &&& (3 : Int32)) - (1 : Int32))).toInt64))), .second, .val (.ref b2), .val (.int (own_enc (own_s q1 q2) (own_e q1 q2 (own_fl (p6 &&& (1 : Int32)))) (own_s (own_mv (p6 &&& (2 : Int32)) q3 ((own_s q1 q2) + ((((((p6).toUInt32 >>> ((2 : Int32) &&& 31).toUInt32).toInt32) &&& (3 : Int32)) - (1 : Int32))).toInt64)) (own_mv (p6 &&& (16 : Int32)) q4 ((own_e q1 q2 (own_fl (p6 &&& (1 : Int32)))) + ((((((p6).toUInt32 >>> ((5 : Int32) &&& 31).toUInt32).toInt32) &&& (3 : Int32)) - (1 : Int32))).toInt64))) (own_e (own_mv (p6 &&& (2 : Int32)) q3 ((own_s q1 q2) + ((((((p6).toUInt32 >>> ((2 : Int32) &&& 31).toUInt32).toInt32) &&& (3 : Int32)) - (1 : Int32))).toInt64)) (own_mv (p6 &&& (16 : Int32)) q4 ((own_e q1 q2 (own_fl (p6 &&& (1 : Int32)))) + ((((((p6).toUInt32 >>> ((5 : Int32) &&& 31).toUInt32).toInt32) &&& (3 : Int32)) - (1 : Int32))).toInt64)) (own_fl (p6 &&& (128 : Int32)))))), .val (.int (own_exp (own_in (own_s q1 q2) (own_e q1 q2 (own_fl (p6 &&& (1 : Int32)))) (own_s (own_mv (p6 &&& (2 : Int32)) q3 ((own_s q1 q2) + ((((((p6).toUInt32 >>> ((2 : Int32) &&& 31).toUInt32).toInt32) &&& (3 : Int32)) - (1 : Int32))).toInt64)) (own_mv (p6 &&& (16 : Int32)) q4 ((own_e q1 q2 (own_fl (p6 &&& (1 : Int32)))) + ((((((p6).toUInt32 >>> ((5 : Int32) &&& 31).toUInt32).toInt32) &&& (3 : Int32)) - (1 : Int32))).toInt64)))) (own_in (own_s q1 q2) (own_e q1 q2 (own_fl (p6 &&& (1 : Int32)))) (own_e (own_mv (p6 &&& (2 : Int32)) q3 ((own_s q1 q2) + ((((((p6).toUInt32 >>> ((2 : Int32) &&& 31).toUInt32).toInt32) &&& (3 : Int32)) - (1 : Int32))).toInt64)) (own_mv (p6 &&& (16 : Int32)) q4 ((own_e q1 q2 (own_fl (p6 &&& (1 : Int32)))) + ((((((p6).toUInt32 >>> ((5 : Int32) &&& 31).toUInt32).toInt32) &&& (3 : Int32)) - (1 : Int32))).toInt64)) (own_fl (p6 &&& (128 : Int32))))))), .val (.int (own_wit (own_enc (own_s q1 q2) (own_e q1 q2 (own_fl (p6 &&& (1 : Int32)))) (own_s (own_mv (p6 &&& (2 : Int32)) q3 ((own_s q1 q2) + ((((((p6).toUInt32 >>> ((2 : Int32) &&& 31).toUInt32).toInt32) &&& (3 : Int32)) - (1 : Int32))).toInt64)) (own_mv (p6 &&& (16 : Int32)) q4 ((own_e q1 q2 (own_fl (p6 &&& (1 : Int32)))) + ((((((p6).toUInt32 >>> ((5 : Int32) &&& 31).toUInt32).toInt32) &&& (3 : Int32)) - (1 : Int32))).toInt64))) (own_e (own_mv (p6 &&& (2 : Int32)) q3 ((own_s q1 q2) + ((((((p6).toUInt32 >>> ((2 : Int32) &&& 31).toUInt32).toInt32) &&& (3 : Int32)) - (1 : Int32))).toInt64)) (own_mv (p6 &&& (16 : Int32)) q4 ((own_e q1 q2 (own_fl (p6 &&& (1 : Int32)))) + ((((((p6).toUInt32 >>> ((5 : Int32) &&& 31).toUInt32).toInt32) &&& (3 : Int32)) - (1 : Int32))).toInt64)) (own_fl (p6 &&& (128 : Int32))))) (own_in (own_s (own_mv (p6 &&& (2 : Int32)) q3 ((own_s q1 q2) + ((((((p6).toUInt32 >>> ((2 : Int32) &&& 31).toUInt32).toInt32) &&& (3 : Int32)) - (1 : Int32))).toInt64)) (own_mv (p6 &&& (16 : Int32)) q4 ((own_e q1 q2 (own_fl (p6 &&& (1 : Int32)))) + ((((((p6).toUInt32 >>> ((5 : Int32) &&& 31).toUInt32).toInt32) &&& (3 : Int32)) - (1 : Int32))).toInt64))) (own_e (own_mv (p6 &&& (2 : Int32)) q3 ((own_s q1 q2) + ((((((p6).toUInt32 >>> ((2 : Int32) &&& 31).toUInt32).toInt32) &&& (3 : Int32)) - (1 : Int32))).toInt64)) (own_mv (p6 &&& (16 : Int32)) q4 ((own_e q1 q2 (own_fl (p6 &&& (1 : Int32)))) + ((((((p6).toUInt32 >>> ((5 : Int32) &&& 31).toUInt32).toInt32) &&& (3 : Int32)) - (1 : Int32))).toInt64)) (own_fl (p6 &&& (128 : Int32)))) q5) (own_in (own_s q1 q2) (own_e q1 q2 (own_fl (p6 &&& (1 : Int32)))) q5)))] [])) t → Steps p.tables e below (s₁.setTop (mkF m 0 #[.val (.long q1), .second, .val (.long q2), .second, .val (.long q3), .second, .val (.long q4), .second, .val (.long q5), .second, .val (.int p6), .unset, .unset, .unset, .unset, .unset, .unset, .unset, .unset, .unset] [])) t) := by
    by_cases hc : (own_enc (own_s q1 q2) (own_e q1 q2 (own_fl (p6 &&& (1 : Int32)))) (own_s (own_mv (p6 &&& (2 : Int32)) q3 ((own_s q1 q2) + ((((((p6).toUInt32 >>> ((2 : Int32) &&& 31).toUInt32).toInt32) &&& (3 : Int32)) - (1 : Int32))).toInt64)) (own_mv (p6 &&& (16 : Int32)) q4 ((own_e q1 q2 (own_fl (p6 &&& (1 : Int32)))) + ((((((p6).toUInt32 >>> ((5 : Int32) &&& 31).toUInt32).toInt32) &&& (3 : Int32)) - (1 : Int32))).toInt64))) (own_e (own_mv (p6 &&& (2 : Int32)) q3 ((own_s q1 q2) + ((((((p6).toUInt32 >>> ((2 : Int32) &&& 31).toUInt32).toInt32) &&& (3 : Int32)) - (1 : Int32))).toInt64)) (own_mv (p6 &&& (16 : Int32)) q4 ((own_e q1 q2 (own_fl (p6 &&& (1 : Int32)))) + ((((((p6).toUInt32 >>> ((5 : Int32) &&& 31).toUInt32).toInt32) &&& (3 : Int32)) - (1 : Int32))).toInt64)) (own_fl (p6 &&& (128 : Int32))))) = (0 : Int32)
    · have R166 : ∀ t, Steps p.tables e below (T145.setTop (mkF m 166 #[.val (.long q1), .second, .val (.long q2), .second, .val (.long q3), .second, .val (.long q4), .second, .val (.long q5), .second, .val (.int p6), .val (.ref b1), .val (.long (own_mv (p6 &&& (2 : Int32)) q3 ((own_s q1 q2) + ((((((p6).toUInt32 >>> ((2 : Int32) &&& 31).toUInt32).toInt32) &&& (3 : Int32)) - (1 : Int32))).toInt64))), .second, .val (.long (own_mv (p6 &&& (16 : Int32)) q4 ((own_e q1 q2 (own_fl (p6 &&& (1 : Int32)))) + ((((((p6).toUInt32 >>> ((5 : Int32) &&& 31).toUInt32).toInt32) &&& (3 : Int32)) - (1 : Int32))).toInt64))), .second, .val (.ref b2), .val (.int (own_enc (own_s q1 q2) (own_e q1 q2 (own_fl (p6 &&& (1 : Int32)))) (own_s (own_mv (p6 &&& (2 : Int32)) q3 ((own_s q1 q2) + ((((((p6).toUInt32 >>> ((2 : Int32) &&& 31).toUInt32).toInt32) &&& (3 : Int32)) - (1 : Int32))).toInt64)) (own_mv (p6 &&& (16 : Int32)) q4 ((own_e q1 q2 (own_fl (p6 &&& (1 : Int32)))) + ((((((p6).toUInt32 >>> ((5 : Int32) &&& 31).toUInt32).toInt32) &&& (3 : Int32)) - (1 : Int32))).toInt64))) (own_e (own_mv (p6 &&& (2 : Int32)) q3 ((own_s q1 q2) + ((((((p6).toUInt32 >>> ((2 : Int32) &&& 31).toUInt32).toInt32) &&& (3 : Int32)) - (1 : Int32))).toInt64)) (own_mv (p6 &&& (16 : Int32)) q4 ((own_e q1 q2 (own_fl (p6 &&& (1 : Int32)))) + ((((((p6).toUInt32 >>> ((5 : Int32) &&& 31).toUInt32).toInt32) &&& (3 : Int32)) - (1 : Int32))).toInt64)) (own_fl (p6 &&& (128 : Int32)))))), .val (.int (own_exp (own_in (own_s q1 q2) (own_e q1 q2 (own_fl (p6 &&& (1 : Int32)))) (own_s (own_mv (p6 &&& (2 : Int32)) q3 ((own_s q1 q2) + ((((((p6).toUInt32 >>> ((2 : Int32) &&& 31).toUInt32).toInt32) &&& (3 : Int32)) - (1 : Int32))).toInt64)) (own_mv (p6 &&& (16 : Int32)) q4 ((own_e q1 q2 (own_fl (p6 &&& (1 : Int32)))) + ((((((p6).toUInt32 >>> ((5 : Int32) &&& 31).toUInt32).toInt32) &&& (3 : Int32)) - (1 : Int32))).toInt64)))) (own_in (own_s q1 q2) (own_e q1 q2 (own_fl (p6 &&& (1 : Int32)))) (own_e (own_mv (p6 &&& (2 : Int32)) q3 ((own_s q1 q2) + ((((((p6).toUInt32 >>> ((2 : Int32) &&& 31).toUInt32).toInt32) &&& (3 : Int32)) - (1 : Int32))).toInt64)) (own_mv (p6 &&& (16 : Int32)) q4 ((own_e q1 q2 (own_fl (p6 &&& (1 : Int32)))) + ((((((p6).toUInt32 >>> ((5 : Int32) &&& 31).toUInt32).toInt32) &&& (3 : Int32)) - (1 : Int32))).toInt64)) (own_fl (p6 &&& (128 : Int32))))))), .unset] [])) t → Steps p.tables e below (s₁.setTop (mkF m 0 #[.val (.long q1), .second, .val (.long q2), .second, .val (.long q3), .second, .val (.long q4), .second, .val (.long q5), .second, .val (.int p6), .unset, .unset, .unset, .unset, .unset, .unset, .unset, .unset, .unset] [])) t := by
        intro t k
        refine R164 t ?_
        refine XS.ifYes X145.here hx rfl (pc0 := 143) (pc' := 166) rfl (hb hby at_143) rfl ((if0 _ _).trans (teq hc).1) (by decide) (by decide) ?_
        exact k
      have R167 : ∀ t, Steps p.tables e below (T145.setTop (mkF m 173 #[.val (.long q1), .second, .val (.long q2), .second, .val (.long q3), .second, .val (.long q4), .second, .val (.long q5), .second, .val (.int p6), .val (.ref b1), .val (.long (own_mv (p6 &&& (2 : Int32)) q3 ((own_s q1 q2) + ((((((p6).toUInt32 >>> ((2 : Int32) &&& 31).toUInt32).toInt32) &&& (3 : Int32)) - (1 : Int32))).toInt64))), .second, .val (.long (own_mv (p6 &&& (16 : Int32)) q4 ((own_e q1 q2 (own_fl (p6 &&& (1 : Int32)))) + ((((((p6).toUInt32 >>> ((5 : Int32) &&& 31).toUInt32).toInt32) &&& (3 : Int32)) - (1 : Int32))).toInt64))), .second, .val (.ref b2), .val (.int (own_enc (own_s q1 q2) (own_e q1 q2 (own_fl (p6 &&& (1 : Int32)))) (own_s (own_mv (p6 &&& (2 : Int32)) q3 ((own_s q1 q2) + ((((((p6).toUInt32 >>> ((2 : Int32) &&& 31).toUInt32).toInt32) &&& (3 : Int32)) - (1 : Int32))).toInt64)) (own_mv (p6 &&& (16 : Int32)) q4 ((own_e q1 q2 (own_fl (p6 &&& (1 : Int32)))) + ((((((p6).toUInt32 >>> ((5 : Int32) &&& 31).toUInt32).toInt32) &&& (3 : Int32)) - (1 : Int32))).toInt64))) (own_e (own_mv (p6 &&& (2 : Int32)) q3 ((own_s q1 q2) + ((((((p6).toUInt32 >>> ((2 : Int32) &&& 31).toUInt32).toInt32) &&& (3 : Int32)) - (1 : Int32))).toInt64)) (own_mv (p6 &&& (16 : Int32)) q4 ((own_e q1 q2 (own_fl (p6 &&& (1 : Int32)))) + ((((((p6).toUInt32 >>> ((5 : Int32) &&& 31).toUInt32).toInt32) &&& (3 : Int32)) - (1 : Int32))).toInt64)) (own_fl (p6 &&& (128 : Int32)))))), .val (.int (own_exp (own_in (own_s q1 q2) (own_e q1 q2 (own_fl (p6 &&& (1 : Int32)))) (own_s (own_mv (p6 &&& (2 : Int32)) q3 ((own_s q1 q2) + ((((((p6).toUInt32 >>> ((2 : Int32) &&& 31).toUInt32).toInt32) &&& (3 : Int32)) - (1 : Int32))).toInt64)) (own_mv (p6 &&& (16 : Int32)) q4 ((own_e q1 q2 (own_fl (p6 &&& (1 : Int32)))) + ((((((p6).toUInt32 >>> ((5 : Int32) &&& 31).toUInt32).toInt32) &&& (3 : Int32)) - (1 : Int32))).toInt64)))) (own_in (own_s q1 q2) (own_e q1 q2 (own_fl (p6 &&& (1 : Int32)))) (own_e (own_mv (p6 &&& (2 : Int32)) q3 ((own_s q1 q2) + ((((((p6).toUInt32 >>> ((2 : Int32) &&& 31).toUInt32).toInt32) &&& (3 : Int32)) - (1 : Int32))).toInt64)) (own_mv (p6 &&& (16 : Int32)) q4 ((own_e q1 q2 (own_fl (p6 &&& (1 : Int32)))) + ((((((p6).toUInt32 >>> ((5 : Int32) &&& 31).toUInt32).toInt32) &&& (3 : Int32)) - (1 : Int32))).toInt64)) (own_fl (p6 &&& (128 : Int32))))))), .val (.int (1 : Int32))] [])) t → Steps p.tables e below (s₁.setTop (mkF m 0 #[.val (.long q1), .second, .val (.long q2), .second, .val (.long q3), .second, .val (.long q4), .second, .val (.long q5), .second, .val (.int p6), .unset, .unset, .unset, .unset, .unset, .unset, .unset, .unset, .unset] [])) t := by
        intro t k
        refine R166 t ?_
        refine XS.iconst X145.here hx rfl (hb hby at_166) ?_
        refine XS.goto X145.here hx rfl (pc0 := 167) (pc' := 171) rfl (hb hby at_167) (by decide) (by decide) ?_
        refine XS.istore X145.here hx rfl (hb hby at_171) rfl (l' := #[.val (.long q1), .second, .val (.long q2), .second, .val (.long q3), .second, .val (.long q4), .second, .val (.long q5), .second, .val (.int p6), .val (.ref b1), .val (.long (own_mv (p6 &&& (2 : Int32)) q3 ((own_s q1 q2) + ((((((p6).toUInt32 >>> ((2 : Int32) &&& 31).toUInt32).toInt32) &&& (3 : Int32)) - (1 : Int32))).toInt64))), .second, .val (.long (own_mv (p6 &&& (16 : Int32)) q4 ((own_e q1 q2 (own_fl (p6 &&& (1 : Int32)))) + ((((((p6).toUInt32 >>> ((5 : Int32) &&& 31).toUInt32).toInt32) &&& (3 : Int32)) - (1 : Int32))).toInt64))), .second, .val (.ref b2), .val (.int (own_enc (own_s q1 q2) (own_e q1 q2 (own_fl (p6 &&& (1 : Int32)))) (own_s (own_mv (p6 &&& (2 : Int32)) q3 ((own_s q1 q2) + ((((((p6).toUInt32 >>> ((2 : Int32) &&& 31).toUInt32).toInt32) &&& (3 : Int32)) - (1 : Int32))).toInt64)) (own_mv (p6 &&& (16 : Int32)) q4 ((own_e q1 q2 (own_fl (p6 &&& (1 : Int32)))) + ((((((p6).toUInt32 >>> ((5 : Int32) &&& 31).toUInt32).toInt32) &&& (3 : Int32)) - (1 : Int32))).toInt64))) (own_e (own_mv (p6 &&& (2 : Int32)) q3 ((own_s q1 q2) + ((((((p6).toUInt32 >>> ((2 : Int32) &&& 31).toUInt32).toInt32) &&& (3 : Int32)) - (1 : Int32))).toInt64)) (own_mv (p6 &&& (16 : Int32)) q4 ((own_e q1 q2 (own_fl (p6 &&& (1 : Int32)))) + ((((((p6).toUInt32 >>> ((5 : Int32) &&& 31).toUInt32).toInt32) &&& (3 : Int32)) - (1 : Int32))).toInt64)) (own_fl (p6 &&& (128 : Int32)))))), .val (.int (own_exp (own_in (own_s q1 q2) (own_e q1 q2 (own_fl (p6 &&& (1 : Int32)))) (own_s (own_mv (p6 &&& (2 : Int32)) q3 ((own_s q1 q2) + ((((((p6).toUInt32 >>> ((2 : Int32) &&& 31).toUInt32).toInt32) &&& (3 : Int32)) - (1 : Int32))).toInt64)) (own_mv (p6 &&& (16 : Int32)) q4 ((own_e q1 q2 (own_fl (p6 &&& (1 : Int32)))) + ((((((p6).toUInt32 >>> ((5 : Int32) &&& 31).toUInt32).toInt32) &&& (3 : Int32)) - (1 : Int32))).toInt64)))) (own_in (own_s q1 q2) (own_e q1 q2 (own_fl (p6 &&& (1 : Int32)))) (own_e (own_mv (p6 &&& (2 : Int32)) q3 ((own_s q1 q2) + ((((((p6).toUInt32 >>> ((2 : Int32) &&& 31).toUInt32).toInt32) &&& (3 : Int32)) - (1 : Int32))).toInt64)) (own_mv (p6 &&& (16 : Int32)) q4 ((own_e q1 q2 (own_fl (p6 &&& (1 : Int32)))) + ((((((p6).toUInt32 >>> ((5 : Int32) &&& 31).toUInt32).toInt32) &&& (3 : Int32)) - (1 : Int32))).toInt64)) (own_fl (p6 &&& (128 : Int32))))))), .val (.int (1 : Int32))]) rfl ?_
        exact k
      rw [show (own_wit (own_enc (own_s q1 q2) (own_e q1 q2 (own_fl (p6 &&& (1 : Int32)))) (own_s (own_mv (p6 &&& (2 : Int32)) q3 ((own_s q1 q2) + ((((((p6).toUInt32 >>> ((2 : Int32) &&& 31).toUInt32).toInt32) &&& (3 : Int32)) - (1 : Int32))).toInt64)) (own_mv (p6 &&& (16 : Int32)) q4 ((own_e q1 q2 (own_fl (p6 &&& (1 : Int32)))) + ((((((p6).toUInt32 >>> ((5 : Int32) &&& 31).toUInt32).toInt32) &&& (3 : Int32)) - (1 : Int32))).toInt64))) (own_e (own_mv (p6 &&& (2 : Int32)) q3 ((own_s q1 q2) + ((((((p6).toUInt32 >>> ((2 : Int32) &&& 31).toUInt32).toInt32) &&& (3 : Int32)) - (1 : Int32))).toInt64)) (own_mv (p6 &&& (16 : Int32)) q4 ((own_e q1 q2 (own_fl (p6 &&& (1 : Int32)))) + ((((((p6).toUInt32 >>> ((5 : Int32) &&& 31).toUInt32).toInt32) &&& (3 : Int32)) - (1 : Int32))).toInt64)) (own_fl (p6 &&& (128 : Int32))))) (own_in (own_s (own_mv (p6 &&& (2 : Int32)) q3 ((own_s q1 q2) + ((((((p6).toUInt32 >>> ((2 : Int32) &&& 31).toUInt32).toInt32) &&& (3 : Int32)) - (1 : Int32))).toInt64)) (own_mv (p6 &&& (16 : Int32)) q4 ((own_e q1 q2 (own_fl (p6 &&& (1 : Int32)))) + ((((((p6).toUInt32 >>> ((5 : Int32) &&& 31).toUInt32).toInt32) &&& (3 : Int32)) - (1 : Int32))).toInt64))) (own_e (own_mv (p6 &&& (2 : Int32)) q3 ((own_s q1 q2) + ((((((p6).toUInt32 >>> ((2 : Int32) &&& 31).toUInt32).toInt32) &&& (3 : Int32)) - (1 : Int32))).toInt64)) (own_mv (p6 &&& (16 : Int32)) q4 ((own_e q1 q2 (own_fl (p6 &&& (1 : Int32)))) + ((((((p6).toUInt32 >>> ((5 : Int32) &&& 31).toUInt32).toInt32) &&& (3 : Int32)) - (1 : Int32))).toInt64)) (own_fl (p6 &&& (128 : Int32)))) q5) (own_in (own_s q1 q2) (own_e q1 q2 (own_fl (p6 &&& (1 : Int32)))) q5)) = 1 from if_pos hc]
      exact ⟨_, _, X145, N145, e145, R167⟩
    · have R168 : ∀ t, Steps p.tables e below (T145.setTop (mkF m 146 #[.val (.long q1), .second, .val (.long q2), .second, .val (.long q3), .second, .val (.long q4), .second, .val (.long q5), .second, .val (.int p6), .val (.ref b1), .val (.long (own_mv (p6 &&& (2 : Int32)) q3 ((own_s q1 q2) + ((((((p6).toUInt32 >>> ((2 : Int32) &&& 31).toUInt32).toInt32) &&& (3 : Int32)) - (1 : Int32))).toInt64))), .second, .val (.long (own_mv (p6 &&& (16 : Int32)) q4 ((own_e q1 q2 (own_fl (p6 &&& (1 : Int32)))) + ((((((p6).toUInt32 >>> ((5 : Int32) &&& 31).toUInt32).toInt32) &&& (3 : Int32)) - (1 : Int32))).toInt64))), .second, .val (.ref b2), .val (.int (own_enc (own_s q1 q2) (own_e q1 q2 (own_fl (p6 &&& (1 : Int32)))) (own_s (own_mv (p6 &&& (2 : Int32)) q3 ((own_s q1 q2) + ((((((p6).toUInt32 >>> ((2 : Int32) &&& 31).toUInt32).toInt32) &&& (3 : Int32)) - (1 : Int32))).toInt64)) (own_mv (p6 &&& (16 : Int32)) q4 ((own_e q1 q2 (own_fl (p6 &&& (1 : Int32)))) + ((((((p6).toUInt32 >>> ((5 : Int32) &&& 31).toUInt32).toInt32) &&& (3 : Int32)) - (1 : Int32))).toInt64))) (own_e (own_mv (p6 &&& (2 : Int32)) q3 ((own_s q1 q2) + ((((((p6).toUInt32 >>> ((2 : Int32) &&& 31).toUInt32).toInt32) &&& (3 : Int32)) - (1 : Int32))).toInt64)) (own_mv (p6 &&& (16 : Int32)) q4 ((own_e q1 q2 (own_fl (p6 &&& (1 : Int32)))) + ((((((p6).toUInt32 >>> ((5 : Int32) &&& 31).toUInt32).toInt32) &&& (3 : Int32)) - (1 : Int32))).toInt64)) (own_fl (p6 &&& (128 : Int32)))))), .val (.int (own_exp (own_in (own_s q1 q2) (own_e q1 q2 (own_fl (p6 &&& (1 : Int32)))) (own_s (own_mv (p6 &&& (2 : Int32)) q3 ((own_s q1 q2) + ((((((p6).toUInt32 >>> ((2 : Int32) &&& 31).toUInt32).toInt32) &&& (3 : Int32)) - (1 : Int32))).toInt64)) (own_mv (p6 &&& (16 : Int32)) q4 ((own_e q1 q2 (own_fl (p6 &&& (1 : Int32)))) + ((((((p6).toUInt32 >>> ((5 : Int32) &&& 31).toUInt32).toInt32) &&& (3 : Int32)) - (1 : Int32))).toInt64)))) (own_in (own_s q1 q2) (own_e q1 q2 (own_fl (p6 &&& (1 : Int32)))) (own_e (own_mv (p6 &&& (2 : Int32)) q3 ((own_s q1 q2) + ((((((p6).toUInt32 >>> ((2 : Int32) &&& 31).toUInt32).toInt32) &&& (3 : Int32)) - (1 : Int32))).toInt64)) (own_mv (p6 &&& (16 : Int32)) q4 ((own_e q1 q2 (own_fl (p6 &&& (1 : Int32)))) + ((((((p6).toUInt32 >>> ((5 : Int32) &&& 31).toUInt32).toInt32) &&& (3 : Int32)) - (1 : Int32))).toInt64)) (own_fl (p6 &&& (128 : Int32))))))), .unset] [])) t → Steps p.tables e below (s₁.setTop (mkF m 0 #[.val (.long q1), .second, .val (.long q2), .second, .val (.long q3), .second, .val (.long q4), .second, .val (.long q5), .second, .val (.int p6), .unset, .unset, .unset, .unset, .unset, .unset, .unset, .unset, .unset] [])) t := by
        intro t k
        refine R164 t ?_
        refine XS.ifNo X145.here hx rfl (hb hby at_143) rfl ((if0 _ _).trans (feq hc).1) ?_
        exact k
      have R169 : ∀ t, Steps p.tables e below (T145.setTop (mkF m 150 #[.val (.long q1), .second, .val (.long q2), .second, .val (.long q3), .second, .val (.long q4), .second, .val (.long q5), .second, .val (.int p6), .val (.ref b1), .val (.long (own_mv (p6 &&& (2 : Int32)) q3 ((own_s q1 q2) + ((((((p6).toUInt32 >>> ((2 : Int32) &&& 31).toUInt32).toInt32) &&& (3 : Int32)) - (1 : Int32))).toInt64))), .second, .val (.long (own_mv (p6 &&& (16 : Int32)) q4 ((own_e q1 q2 (own_fl (p6 &&& (1 : Int32)))) + ((((((p6).toUInt32 >>> ((5 : Int32) &&& 31).toUInt32).toInt32) &&& (3 : Int32)) - (1 : Int32))).toInt64))), .second, .val (.ref b2), .val (.int (own_enc (own_s q1 q2) (own_e q1 q2 (own_fl (p6 &&& (1 : Int32)))) (own_s (own_mv (p6 &&& (2 : Int32)) q3 ((own_s q1 q2) + ((((((p6).toUInt32 >>> ((2 : Int32) &&& 31).toUInt32).toInt32) &&& (3 : Int32)) - (1 : Int32))).toInt64)) (own_mv (p6 &&& (16 : Int32)) q4 ((own_e q1 q2 (own_fl (p6 &&& (1 : Int32)))) + ((((((p6).toUInt32 >>> ((5 : Int32) &&& 31).toUInt32).toInt32) &&& (3 : Int32)) - (1 : Int32))).toInt64))) (own_e (own_mv (p6 &&& (2 : Int32)) q3 ((own_s q1 q2) + ((((((p6).toUInt32 >>> ((2 : Int32) &&& 31).toUInt32).toInt32) &&& (3 : Int32)) - (1 : Int32))).toInt64)) (own_mv (p6 &&& (16 : Int32)) q4 ((own_e q1 q2 (own_fl (p6 &&& (1 : Int32)))) + ((((((p6).toUInt32 >>> ((5 : Int32) &&& 31).toUInt32).toInt32) &&& (3 : Int32)) - (1 : Int32))).toInt64)) (own_fl (p6 &&& (128 : Int32)))))), .val (.int (own_exp (own_in (own_s q1 q2) (own_e q1 q2 (own_fl (p6 &&& (1 : Int32)))) (own_s (own_mv (p6 &&& (2 : Int32)) q3 ((own_s q1 q2) + ((((((p6).toUInt32 >>> ((2 : Int32) &&& 31).toUInt32).toInt32) &&& (3 : Int32)) - (1 : Int32))).toInt64)) (own_mv (p6 &&& (16 : Int32)) q4 ((own_e q1 q2 (own_fl (p6 &&& (1 : Int32)))) + ((((((p6).toUInt32 >>> ((5 : Int32) &&& 31).toUInt32).toInt32) &&& (3 : Int32)) - (1 : Int32))).toInt64)))) (own_in (own_s q1 q2) (own_e q1 q2 (own_fl (p6 &&& (1 : Int32)))) (own_e (own_mv (p6 &&& (2 : Int32)) q3 ((own_s q1 q2) + ((((((p6).toUInt32 >>> ((2 : Int32) &&& 31).toUInt32).toInt32) &&& (3 : Int32)) - (1 : Int32))).toInt64)) (own_mv (p6 &&& (16 : Int32)) q4 ((own_e q1 q2 (own_fl (p6 &&& (1 : Int32)))) + ((((((p6).toUInt32 >>> ((5 : Int32) &&& 31).toUInt32).toInt32) &&& (3 : Int32)) - (1 : Int32))).toInt64)) (own_fl (p6 &&& (128 : Int32))))))), .unset] [(.long q5), (.ref b2)])) t → Steps p.tables e below (s₁.setTop (mkF m 0 #[.val (.long q1), .second, .val (.long q2), .second, .val (.long q3), .second, .val (.long q4), .second, .val (.long q5), .second, .val (.int p6), .unset, .unset, .unset, .unset, .unset, .unset, .unset, .unset, .unset] [])) t := by
        intro t k
        refine R168 t ?_
        refine XS.aload X145.here hx rfl (hb hby at_146) rfl rfl ?_
        refine XS.lload X145.here hx rfl (hb hby at_148) rfl ?_
        exact k
      obtain ⟨_, _, ⟨T170, L170, k170, n170⟩, -, X170, ⟨Lc170, hQ170, l170, y170, z170⟩, st170⟩ := Jvm.LawKit.callS X145 hx (y := (⟨"com/example/varese/varese/IntervalEnclosesPinLaw", "in", "(Lcom/example/varese/varese/Interval;J)Z"⟩ : MethodName)) hown (mvT hZ (hw _ (List.mem_of_getElem? (i := 41) rfl))) (mvT hZ (hw _ (List.mem_of_getElem? (i := 42) rfl))) (mvT hZ (hw _ (List.mem_of_getElem? (i := 2) rfl))) (mvT hZ (hw _ (List.mem_of_getElem? (i := 43) rfl))) (by decide) (backOf (W := 0) (rm9 l Z a0 hw [] b2 q5 (own_s (own_mv (p6 &&& (2 : Int32)) q3 ((own_s q1 q2) + ((((((p6).toUInt32 >>> ((2 : Int32) &&& 31).toUInt32).toInt32) &&& (3 : Int32)) - (1 : Int32))).toInt64)) (own_mv (p6 &&& (16 : Int32)) q4 ((own_e q1 q2 (own_fl (p6 &&& (1 : Int32)))) + ((((((p6).toUInt32 >>> ((5 : Int32) &&& 31).toUInt32).toInt32) &&& (3 : Int32)) - (1 : Int32))).toInt64))) (own_e (own_mv (p6 &&& (2 : Int32)) q3 ((own_s q1 q2) + ((((((p6).toUInt32 >>> ((2 : Int32) &&& 31).toUInt32).toInt32) &&& (3 : Int32)) - (1 : Int32))).toInt64)) (own_mv (p6 &&& (16 : Int32)) q4 ((own_e q1 q2 (own_fl (p6 &&& (1 : Int32)))) + ((((((p6).toUInt32 >>> ((5 : Int32) &&& 31).toUInt32).toInt32) &&& (3 : Int32)) - (1 : Int32))).toInt64)) (own_fl (p6 &&& (128 : Int32)))) T135.heap n0 Z135 Eo135 Fa135 Fb135) hZ (hw _ (List.mem_of_getElem? (i := 43) rfl)) (hw _ (List.mem_of_getElem? (i := 2) rfl)) (by decide) (by decide)) (g := (mkF m 150 #[.val (.long q1), .second, .val (.long q2), .second, .val (.long q3), .second, .val (.long q4), .second, .val (.long q5), .second, .val (.int p6), .val (.ref b1), .val (.long (own_mv (p6 &&& (2 : Int32)) q3 ((own_s q1 q2) + ((((((p6).toUInt32 >>> ((2 : Int32) &&& 31).toUInt32).toInt32) &&& (3 : Int32)) - (1 : Int32))).toInt64))), .second, .val (.long (own_mv (p6 &&& (16 : Int32)) q4 ((own_e q1 q2 (own_fl (p6 &&& (1 : Int32)))) + ((((((p6).toUInt32 >>> ((5 : Int32) &&& 31).toUInt32).toInt32) &&& (3 : Int32)) - (1 : Int32))).toInt64))), .second, .val (.ref b2), .val (.int (own_enc (own_s q1 q2) (own_e q1 q2 (own_fl (p6 &&& (1 : Int32)))) (own_s (own_mv (p6 &&& (2 : Int32)) q3 ((own_s q1 q2) + ((((((p6).toUInt32 >>> ((2 : Int32) &&& 31).toUInt32).toInt32) &&& (3 : Int32)) - (1 : Int32))).toInt64)) (own_mv (p6 &&& (16 : Int32)) q4 ((own_e q1 q2 (own_fl (p6 &&& (1 : Int32)))) + ((((((p6).toUInt32 >>> ((5 : Int32) &&& 31).toUInt32).toInt32) &&& (3 : Int32)) - (1 : Int32))).toInt64))) (own_e (own_mv (p6 &&& (2 : Int32)) q3 ((own_s q1 q2) + ((((((p6).toUInt32 >>> ((2 : Int32) &&& 31).toUInt32).toInt32) &&& (3 : Int32)) - (1 : Int32))).toInt64)) (own_mv (p6 &&& (16 : Int32)) q4 ((own_e q1 q2 (own_fl (p6 &&& (1 : Int32)))) + ((((((p6).toUInt32 >>> ((5 : Int32) &&& 31).toUInt32).toInt32) &&& (3 : Int32)) - (1 : Int32))).toInt64)) (own_fl (p6 &&& (128 : Int32)))))), .val (.int (own_exp (own_in (own_s q1 q2) (own_e q1 q2 (own_fl (p6 &&& (1 : Int32)))) (own_s (own_mv (p6 &&& (2 : Int32)) q3 ((own_s q1 q2) + ((((((p6).toUInt32 >>> ((2 : Int32) &&& 31).toUInt32).toInt32) &&& (3 : Int32)) - (1 : Int32))).toInt64)) (own_mv (p6 &&& (16 : Int32)) q4 ((own_e q1 q2 (own_fl (p6 &&& (1 : Int32)))) + ((((((p6).toUInt32 >>> ((5 : Int32) &&& 31).toUInt32).toInt32) &&& (3 : Int32)) - (1 : Int32))).toInt64)))) (own_in (own_s q1 q2) (own_e q1 q2 (own_fl (p6 &&& (1 : Int32)))) (own_e (own_mv (p6 &&& (2 : Int32)) q3 ((own_s q1 q2) + ((((((p6).toUInt32 >>> ((2 : Int32) &&& 31).toUInt32).toInt32) &&& (3 : Int32)) - (1 : Int32))).toInt64)) (own_mv (p6 &&& (16 : Int32)) q4 ((own_e q1 q2 (own_fl (p6 &&& (1 : Int32)))) + ((((((p6).toUInt32 >>> ((5 : Int32) &&& 31).toUInt32).toInt32) &&& (3 : Int32)) - (1 : Int32))).toInt64)) (own_fl (p6 &&& (128 : Int32))))))), .unset] [(.long q5), (.ref b2)])) rfl (by rw [hml]; rfl) (argsL := [(.ref b2), (.long q5)]) (rest := []) (lenOf pd_6 rfl) rfl (by show 2 * 0 + _ ≤ _; exact Nat.le_of_eq rfl) (hb hby at_150) (fun _ _ => ⟨rfl, e145, (by decide : 2 + 0 ≤ _), (by decide : 4 + 0 ≤ _)⟩)
      dsimp only [Pt.U, Pt.locs, Pt.cells, Pt.slots] at X170 l170 y170 z170 st170 hQ170
      subst l170 y170 z170
      obtain ⟨rfl, M170, e170⟩ := hQ170
      have N170 := Fr.app N145 M170
      have R171 : ∀ t, Steps p.tables e below (T170.setTop (mkF m 153 #[.val (.long q1), .second, .val (.long q2), .second, .val (.long q3), .second, .val (.long q4), .second, .val (.long q5), .second, .val (.int p6), .val (.ref b1), .val (.long (own_mv (p6 &&& (2 : Int32)) q3 ((own_s q1 q2) + ((((((p6).toUInt32 >>> ((2 : Int32) &&& 31).toUInt32).toInt32) &&& (3 : Int32)) - (1 : Int32))).toInt64))), .second, .val (.long (own_mv (p6 &&& (16 : Int32)) q4 ((own_e q1 q2 (own_fl (p6 &&& (1 : Int32)))) + ((((((p6).toUInt32 >>> ((5 : Int32) &&& 31).toUInt32).toInt32) &&& (3 : Int32)) - (1 : Int32))).toInt64))), .second, .val (.ref b2), .val (.int (own_enc (own_s q1 q2) (own_e q1 q2 (own_fl (p6 &&& (1 : Int32)))) (own_s (own_mv (p6 &&& (2 : Int32)) q3 ((own_s q1 q2) + ((((((p6).toUInt32 >>> ((2 : Int32) &&& 31).toUInt32).toInt32) &&& (3 : Int32)) - (1 : Int32))).toInt64)) (own_mv (p6 &&& (16 : Int32)) q4 ((own_e q1 q2 (own_fl (p6 &&& (1 : Int32)))) + ((((((p6).toUInt32 >>> ((5 : Int32) &&& 31).toUInt32).toInt32) &&& (3 : Int32)) - (1 : Int32))).toInt64))) (own_e (own_mv (p6 &&& (2 : Int32)) q3 ((own_s q1 q2) + ((((((p6).toUInt32 >>> ((2 : Int32) &&& 31).toUInt32).toInt32) &&& (3 : Int32)) - (1 : Int32))).toInt64)) (own_mv (p6 &&& (16 : Int32)) q4 ((own_e q1 q2 (own_fl (p6 &&& (1 : Int32)))) + ((((((p6).toUInt32 >>> ((5 : Int32) &&& 31).toUInt32).toInt32) &&& (3 : Int32)) - (1 : Int32))).toInt64)) (own_fl (p6 &&& (128 : Int32)))))), .val (.int (own_exp (own_in (own_s q1 q2) (own_e q1 q2 (own_fl (p6 &&& (1 : Int32)))) (own_s (own_mv (p6 &&& (2 : Int32)) q3 ((own_s q1 q2) + ((((((p6).toUInt32 >>> ((2 : Int32) &&& 31).toUInt32).toInt32) &&& (3 : Int32)) - (1 : Int32))).toInt64)) (own_mv (p6 &&& (16 : Int32)) q4 ((own_e q1 q2 (own_fl (p6 &&& (1 : Int32)))) + ((((((p6).toUInt32 >>> ((5 : Int32) &&& 31).toUInt32).toInt32) &&& (3 : Int32)) - (1 : Int32))).toInt64)))) (own_in (own_s q1 q2) (own_e q1 q2 (own_fl (p6 &&& (1 : Int32)))) (own_e (own_mv (p6 &&& (2 : Int32)) q3 ((own_s q1 q2) + ((((((p6).toUInt32 >>> ((2 : Int32) &&& 31).toUInt32).toInt32) &&& (3 : Int32)) - (1 : Int32))).toInt64)) (own_mv (p6 &&& (16 : Int32)) q4 ((own_e q1 q2 (own_fl (p6 &&& (1 : Int32)))) + ((((((p6).toUInt32 >>> ((5 : Int32) &&& 31).toUInt32).toInt32) &&& (3 : Int32)) - (1 : Int32))).toInt64)) (own_fl (p6 &&& (128 : Int32))))))), .unset] [(.int (own_in (own_s (own_mv (p6 &&& (2 : Int32)) q3 ((own_s q1 q2) + ((((((p6).toUInt32 >>> ((2 : Int32) &&& 31).toUInt32).toInt32) &&& (3 : Int32)) - (1 : Int32))).toInt64)) (own_mv (p6 &&& (16 : Int32)) q4 ((own_e q1 q2 (own_fl (p6 &&& (1 : Int32)))) + ((((((p6).toUInt32 >>> ((5 : Int32) &&& 31).toUInt32).toInt32) &&& (3 : Int32)) - (1 : Int32))).toInt64))) (own_e (own_mv (p6 &&& (2 : Int32)) q3 ((own_s q1 q2) + ((((((p6).toUInt32 >>> ((2 : Int32) &&& 31).toUInt32).toInt32) &&& (3 : Int32)) - (1 : Int32))).toInt64)) (own_mv (p6 &&& (16 : Int32)) q4 ((own_e q1 q2 (own_fl (p6 &&& (1 : Int32)))) + ((((((p6).toUInt32 >>> ((5 : Int32) &&& 31).toUInt32).toInt32) &&& (3 : Int32)) - (1 : Int32))).toInt64)) (own_fl (p6 &&& (128 : Int32)))) q5))])) t → Steps p.tables e below (s₁.setTop (mkF m 0 #[.val (.long q1), .second, .val (.long q2), .second, .val (.long q3), .second, .val (.long q4), .second, .val (.long q5), .second, .val (.int p6), .unset, .unset, .unset, .unset, .unset, .unset, .unset, .unset, .unset] [])) t := fun t k => R169 t (st170 _ k)
      by_cases hd : (own_in (own_s (own_mv (p6 &&& (2 : Int32)) q3 ((own_s q1 q2) + ((((((p6).toUInt32 >>> ((2 : Int32) &&& 31).toUInt32).toInt32) &&& (3 : Int32)) - (1 : Int32))).toInt64)) (own_mv (p6 &&& (16 : Int32)) q4 ((own_e q1 q2 (own_fl (p6 &&& (1 : Int32)))) + ((((((p6).toUInt32 >>> ((5 : Int32) &&& 31).toUInt32).toInt32) &&& (3 : Int32)) - (1 : Int32))).toInt64))) (own_e (own_mv (p6 &&& (2 : Int32)) q3 ((own_s q1 q2) + ((((((p6).toUInt32 >>> ((2 : Int32) &&& 31).toUInt32).toInt32) &&& (3 : Int32)) - (1 : Int32))).toInt64)) (own_mv (p6 &&& (16 : Int32)) q4 ((own_e q1 q2 (own_fl (p6 &&& (1 : Int32)))) + ((((((p6).toUInt32 >>> ((5 : Int32) &&& 31).toUInt32).toInt32) &&& (3 : Int32)) - (1 : Int32))).toInt64)) (own_fl (p6 &&& (128 : Int32)))) q5) = (0 : Int32)
      · have R172 : ∀ t, Steps p.tables e below (T170.setTop (mkF m 166 #[.val (.long q1), .second, .val (.long q2), .second, .val (.long q3), .second, .val (.long q4), .second, .val (.long q5), .second, .val (.int p6), .val (.ref b1), .val (.long (own_mv (p6 &&& (2 : Int32)) q3 ((own_s q1 q2) + ((((((p6).toUInt32 >>> ((2 : Int32) &&& 31).toUInt32).toInt32) &&& (3 : Int32)) - (1 : Int32))).toInt64))), .second, .val (.long (own_mv (p6 &&& (16 : Int32)) q4 ((own_e q1 q2 (own_fl (p6 &&& (1 : Int32)))) + ((((((p6).toUInt32 >>> ((5 : Int32) &&& 31).toUInt32).toInt32) &&& (3 : Int32)) - (1 : Int32))).toInt64))), .second, .val (.ref b2), .val (.int (own_enc (own_s q1 q2) (own_e q1 q2 (own_fl (p6 &&& (1 : Int32)))) (own_s (own_mv (p6 &&& (2 : Int32)) q3 ((own_s q1 q2) + ((((((p6).toUInt32 >>> ((2 : Int32) &&& 31).toUInt32).toInt32) &&& (3 : Int32)) - (1 : Int32))).toInt64)) (own_mv (p6 &&& (16 : Int32)) q4 ((own_e q1 q2 (own_fl (p6 &&& (1 : Int32)))) + ((((((p6).toUInt32 >>> ((5 : Int32) &&& 31).toUInt32).toInt32) &&& (3 : Int32)) - (1 : Int32))).toInt64))) (own_e (own_mv (p6 &&& (2 : Int32)) q3 ((own_s q1 q2) + ((((((p6).toUInt32 >>> ((2 : Int32) &&& 31).toUInt32).toInt32) &&& (3 : Int32)) - (1 : Int32))).toInt64)) (own_mv (p6 &&& (16 : Int32)) q4 ((own_e q1 q2 (own_fl (p6 &&& (1 : Int32)))) + ((((((p6).toUInt32 >>> ((5 : Int32) &&& 31).toUInt32).toInt32) &&& (3 : Int32)) - (1 : Int32))).toInt64)) (own_fl (p6 &&& (128 : Int32)))))), .val (.int (own_exp (own_in (own_s q1 q2) (own_e q1 q2 (own_fl (p6 &&& (1 : Int32)))) (own_s (own_mv (p6 &&& (2 : Int32)) q3 ((own_s q1 q2) + ((((((p6).toUInt32 >>> ((2 : Int32) &&& 31).toUInt32).toInt32) &&& (3 : Int32)) - (1 : Int32))).toInt64)) (own_mv (p6 &&& (16 : Int32)) q4 ((own_e q1 q2 (own_fl (p6 &&& (1 : Int32)))) + ((((((p6).toUInt32 >>> ((5 : Int32) &&& 31).toUInt32).toInt32) &&& (3 : Int32)) - (1 : Int32))).toInt64)))) (own_in (own_s q1 q2) (own_e q1 q2 (own_fl (p6 &&& (1 : Int32)))) (own_e (own_mv (p6 &&& (2 : Int32)) q3 ((own_s q1 q2) + ((((((p6).toUInt32 >>> ((2 : Int32) &&& 31).toUInt32).toInt32) &&& (3 : Int32)) - (1 : Int32))).toInt64)) (own_mv (p6 &&& (16 : Int32)) q4 ((own_e q1 q2 (own_fl (p6 &&& (1 : Int32)))) + ((((((p6).toUInt32 >>> ((5 : Int32) &&& 31).toUInt32).toInt32) &&& (3 : Int32)) - (1 : Int32))).toInt64)) (own_fl (p6 &&& (128 : Int32))))))), .unset] [])) t → Steps p.tables e below (s₁.setTop (mkF m 0 #[.val (.long q1), .second, .val (.long q2), .second, .val (.long q3), .second, .val (.long q4), .second, .val (.long q5), .second, .val (.int p6), .unset, .unset, .unset, .unset, .unset, .unset, .unset, .unset, .unset] [])) t := by
          intro t k
          refine R171 t ?_
          refine XS.ifYes X170.here hx rfl (pc0 := 153) (pc' := 166) rfl (hb hby at_153) rfl ((if0 _ _).trans (teq hd).1) (by decide) (by decide) ?_
          exact k
        have R173 : ∀ t, Steps p.tables e below (T170.setTop (mkF m 173 #[.val (.long q1), .second, .val (.long q2), .second, .val (.long q3), .second, .val (.long q4), .second, .val (.long q5), .second, .val (.int p6), .val (.ref b1), .val (.long (own_mv (p6 &&& (2 : Int32)) q3 ((own_s q1 q2) + ((((((p6).toUInt32 >>> ((2 : Int32) &&& 31).toUInt32).toInt32) &&& (3 : Int32)) - (1 : Int32))).toInt64))), .second, .val (.long (own_mv (p6 &&& (16 : Int32)) q4 ((own_e q1 q2 (own_fl (p6 &&& (1 : Int32)))) + ((((((p6).toUInt32 >>> ((5 : Int32) &&& 31).toUInt32).toInt32) &&& (3 : Int32)) - (1 : Int32))).toInt64))), .second, .val (.ref b2), .val (.int (own_enc (own_s q1 q2) (own_e q1 q2 (own_fl (p6 &&& (1 : Int32)))) (own_s (own_mv (p6 &&& (2 : Int32)) q3 ((own_s q1 q2) + ((((((p6).toUInt32 >>> ((2 : Int32) &&& 31).toUInt32).toInt32) &&& (3 : Int32)) - (1 : Int32))).toInt64)) (own_mv (p6 &&& (16 : Int32)) q4 ((own_e q1 q2 (own_fl (p6 &&& (1 : Int32)))) + ((((((p6).toUInt32 >>> ((5 : Int32) &&& 31).toUInt32).toInt32) &&& (3 : Int32)) - (1 : Int32))).toInt64))) (own_e (own_mv (p6 &&& (2 : Int32)) q3 ((own_s q1 q2) + ((((((p6).toUInt32 >>> ((2 : Int32) &&& 31).toUInt32).toInt32) &&& (3 : Int32)) - (1 : Int32))).toInt64)) (own_mv (p6 &&& (16 : Int32)) q4 ((own_e q1 q2 (own_fl (p6 &&& (1 : Int32)))) + ((((((p6).toUInt32 >>> ((5 : Int32) &&& 31).toUInt32).toInt32) &&& (3 : Int32)) - (1 : Int32))).toInt64)) (own_fl (p6 &&& (128 : Int32)))))), .val (.int (own_exp (own_in (own_s q1 q2) (own_e q1 q2 (own_fl (p6 &&& (1 : Int32)))) (own_s (own_mv (p6 &&& (2 : Int32)) q3 ((own_s q1 q2) + ((((((p6).toUInt32 >>> ((2 : Int32) &&& 31).toUInt32).toInt32) &&& (3 : Int32)) - (1 : Int32))).toInt64)) (own_mv (p6 &&& (16 : Int32)) q4 ((own_e q1 q2 (own_fl (p6 &&& (1 : Int32)))) + ((((((p6).toUInt32 >>> ((5 : Int32) &&& 31).toUInt32).toInt32) &&& (3 : Int32)) - (1 : Int32))).toInt64)))) (own_in (own_s q1 q2) (own_e q1 q2 (own_fl (p6 &&& (1 : Int32)))) (own_e (own_mv (p6 &&& (2 : Int32)) q3 ((own_s q1 q2) + ((((((p6).toUInt32 >>> ((2 : Int32) &&& 31).toUInt32).toInt32) &&& (3 : Int32)) - (1 : Int32))).toInt64)) (own_mv (p6 &&& (16 : Int32)) q4 ((own_e q1 q2 (own_fl (p6 &&& (1 : Int32)))) + ((((((p6).toUInt32 >>> ((5 : Int32) &&& 31).toUInt32).toInt32) &&& (3 : Int32)) - (1 : Int32))).toInt64)) (own_fl (p6 &&& (128 : Int32))))))), .val (.int (1 : Int32))] [])) t → Steps p.tables e below (s₁.setTop (mkF m 0 #[.val (.long q1), .second, .val (.long q2), .second, .val (.long q3), .second, .val (.long q4), .second, .val (.long q5), .second, .val (.int p6), .unset, .unset, .unset, .unset, .unset, .unset, .unset, .unset, .unset] [])) t := by
          intro t k
          refine R172 t ?_
          refine XS.iconst X170.here hx rfl (hb hby at_166) ?_
          refine XS.goto X170.here hx rfl (pc0 := 167) (pc' := 171) rfl (hb hby at_167) (by decide) (by decide) ?_
          refine XS.istore X170.here hx rfl (hb hby at_171) rfl (l' := #[.val (.long q1), .second, .val (.long q2), .second, .val (.long q3), .second, .val (.long q4), .second, .val (.long q5), .second, .val (.int p6), .val (.ref b1), .val (.long (own_mv (p6 &&& (2 : Int32)) q3 ((own_s q1 q2) + ((((((p6).toUInt32 >>> ((2 : Int32) &&& 31).toUInt32).toInt32) &&& (3 : Int32)) - (1 : Int32))).toInt64))), .second, .val (.long (own_mv (p6 &&& (16 : Int32)) q4 ((own_e q1 q2 (own_fl (p6 &&& (1 : Int32)))) + ((((((p6).toUInt32 >>> ((5 : Int32) &&& 31).toUInt32).toInt32) &&& (3 : Int32)) - (1 : Int32))).toInt64))), .second, .val (.ref b2), .val (.int (own_enc (own_s q1 q2) (own_e q1 q2 (own_fl (p6 &&& (1 : Int32)))) (own_s (own_mv (p6 &&& (2 : Int32)) q3 ((own_s q1 q2) + ((((((p6).toUInt32 >>> ((2 : Int32) &&& 31).toUInt32).toInt32) &&& (3 : Int32)) - (1 : Int32))).toInt64)) (own_mv (p6 &&& (16 : Int32)) q4 ((own_e q1 q2 (own_fl (p6 &&& (1 : Int32)))) + ((((((p6).toUInt32 >>> ((5 : Int32) &&& 31).toUInt32).toInt32) &&& (3 : Int32)) - (1 : Int32))).toInt64))) (own_e (own_mv (p6 &&& (2 : Int32)) q3 ((own_s q1 q2) + ((((((p6).toUInt32 >>> ((2 : Int32) &&& 31).toUInt32).toInt32) &&& (3 : Int32)) - (1 : Int32))).toInt64)) (own_mv (p6 &&& (16 : Int32)) q4 ((own_e q1 q2 (own_fl (p6 &&& (1 : Int32)))) + ((((((p6).toUInt32 >>> ((5 : Int32) &&& 31).toUInt32).toInt32) &&& (3 : Int32)) - (1 : Int32))).toInt64)) (own_fl (p6 &&& (128 : Int32)))))), .val (.int (own_exp (own_in (own_s q1 q2) (own_e q1 q2 (own_fl (p6 &&& (1 : Int32)))) (own_s (own_mv (p6 &&& (2 : Int32)) q3 ((own_s q1 q2) + ((((((p6).toUInt32 >>> ((2 : Int32) &&& 31).toUInt32).toInt32) &&& (3 : Int32)) - (1 : Int32))).toInt64)) (own_mv (p6 &&& (16 : Int32)) q4 ((own_e q1 q2 (own_fl (p6 &&& (1 : Int32)))) + ((((((p6).toUInt32 >>> ((5 : Int32) &&& 31).toUInt32).toInt32) &&& (3 : Int32)) - (1 : Int32))).toInt64)))) (own_in (own_s q1 q2) (own_e q1 q2 (own_fl (p6 &&& (1 : Int32)))) (own_e (own_mv (p6 &&& (2 : Int32)) q3 ((own_s q1 q2) + ((((((p6).toUInt32 >>> ((2 : Int32) &&& 31).toUInt32).toInt32) &&& (3 : Int32)) - (1 : Int32))).toInt64)) (own_mv (p6 &&& (16 : Int32)) q4 ((own_e q1 q2 (own_fl (p6 &&& (1 : Int32)))) + ((((((p6).toUInt32 >>> ((5 : Int32) &&& 31).toUInt32).toInt32) &&& (3 : Int32)) - (1 : Int32))).toInt64)) (own_fl (p6 &&& (128 : Int32))))))), .val (.int (1 : Int32))]) rfl ?_
          exact k
        rw [show (own_wit (own_enc (own_s q1 q2) (own_e q1 q2 (own_fl (p6 &&& (1 : Int32)))) (own_s (own_mv (p6 &&& (2 : Int32)) q3 ((own_s q1 q2) + ((((((p6).toUInt32 >>> ((2 : Int32) &&& 31).toUInt32).toInt32) &&& (3 : Int32)) - (1 : Int32))).toInt64)) (own_mv (p6 &&& (16 : Int32)) q4 ((own_e q1 q2 (own_fl (p6 &&& (1 : Int32)))) + ((((((p6).toUInt32 >>> ((5 : Int32) &&& 31).toUInt32).toInt32) &&& (3 : Int32)) - (1 : Int32))).toInt64))) (own_e (own_mv (p6 &&& (2 : Int32)) q3 ((own_s q1 q2) + ((((((p6).toUInt32 >>> ((2 : Int32) &&& 31).toUInt32).toInt32) &&& (3 : Int32)) - (1 : Int32))).toInt64)) (own_mv (p6 &&& (16 : Int32)) q4 ((own_e q1 q2 (own_fl (p6 &&& (1 : Int32)))) + ((((((p6).toUInt32 >>> ((5 : Int32) &&& 31).toUInt32).toInt32) &&& (3 : Int32)) - (1 : Int32))).toInt64)) (own_fl (p6 &&& (128 : Int32))))) (own_in (own_s (own_mv (p6 &&& (2 : Int32)) q3 ((own_s q1 q2) + ((((((p6).toUInt32 >>> ((2 : Int32) &&& 31).toUInt32).toInt32) &&& (3 : Int32)) - (1 : Int32))).toInt64)) (own_mv (p6 &&& (16 : Int32)) q4 ((own_e q1 q2 (own_fl (p6 &&& (1 : Int32)))) + ((((((p6).toUInt32 >>> ((5 : Int32) &&& 31).toUInt32).toInt32) &&& (3 : Int32)) - (1 : Int32))).toInt64))) (own_e (own_mv (p6 &&& (2 : Int32)) q3 ((own_s q1 q2) + ((((((p6).toUInt32 >>> ((2 : Int32) &&& 31).toUInt32).toInt32) &&& (3 : Int32)) - (1 : Int32))).toInt64)) (own_mv (p6 &&& (16 : Int32)) q4 ((own_e q1 q2 (own_fl (p6 &&& (1 : Int32)))) + ((((((p6).toUInt32 >>> ((5 : Int32) &&& 31).toUInt32).toInt32) &&& (3 : Int32)) - (1 : Int32))).toInt64)) (own_fl (p6 &&& (128 : Int32)))) q5) (own_in (own_s q1 q2) (own_e q1 q2 (own_fl (p6 &&& (1 : Int32)))) q5)) = 1 from (if_neg hc).trans (if_pos hd)]
        exact ⟨_, _, X170, N170, e170, R173⟩
      · have R174 : ∀ t, Steps p.tables e below (T170.setTop (mkF m 156 #[.val (.long q1), .second, .val (.long q2), .second, .val (.long q3), .second, .val (.long q4), .second, .val (.long q5), .second, .val (.int p6), .val (.ref b1), .val (.long (own_mv (p6 &&& (2 : Int32)) q3 ((own_s q1 q2) + ((((((p6).toUInt32 >>> ((2 : Int32) &&& 31).toUInt32).toInt32) &&& (3 : Int32)) - (1 : Int32))).toInt64))), .second, .val (.long (own_mv (p6 &&& (16 : Int32)) q4 ((own_e q1 q2 (own_fl (p6 &&& (1 : Int32)))) + ((((((p6).toUInt32 >>> ((5 : Int32) &&& 31).toUInt32).toInt32) &&& (3 : Int32)) - (1 : Int32))).toInt64))), .second, .val (.ref b2), .val (.int (own_enc (own_s q1 q2) (own_e q1 q2 (own_fl (p6 &&& (1 : Int32)))) (own_s (own_mv (p6 &&& (2 : Int32)) q3 ((own_s q1 q2) + ((((((p6).toUInt32 >>> ((2 : Int32) &&& 31).toUInt32).toInt32) &&& (3 : Int32)) - (1 : Int32))).toInt64)) (own_mv (p6 &&& (16 : Int32)) q4 ((own_e q1 q2 (own_fl (p6 &&& (1 : Int32)))) + ((((((p6).toUInt32 >>> ((5 : Int32) &&& 31).toUInt32).toInt32) &&& (3 : Int32)) - (1 : Int32))).toInt64))) (own_e (own_mv (p6 &&& (2 : Int32)) q3 ((own_s q1 q2) + ((((((p6).toUInt32 >>> ((2 : Int32) &&& 31).toUInt32).toInt32) &&& (3 : Int32)) - (1 : Int32))).toInt64)) (own_mv (p6 &&& (16 : Int32)) q4 ((own_e q1 q2 (own_fl (p6 &&& (1 : Int32)))) + ((((((p6).toUInt32 >>> ((5 : Int32) &&& 31).toUInt32).toInt32) &&& (3 : Int32)) - (1 : Int32))).toInt64)) (own_fl (p6 &&& (128 : Int32)))))), .val (.int (own_exp (own_in (own_s q1 q2) (own_e q1 q2 (own_fl (p6 &&& (1 : Int32)))) (own_s (own_mv (p6 &&& (2 : Int32)) q3 ((own_s q1 q2) + ((((((p6).toUInt32 >>> ((2 : Int32) &&& 31).toUInt32).toInt32) &&& (3 : Int32)) - (1 : Int32))).toInt64)) (own_mv (p6 &&& (16 : Int32)) q4 ((own_e q1 q2 (own_fl (p6 &&& (1 : Int32)))) + ((((((p6).toUInt32 >>> ((5 : Int32) &&& 31).toUInt32).toInt32) &&& (3 : Int32)) - (1 : Int32))).toInt64)))) (own_in (own_s q1 q2) (own_e q1 q2 (own_fl (p6 &&& (1 : Int32)))) (own_e (own_mv (p6 &&& (2 : Int32)) q3 ((own_s q1 q2) + ((((((p6).toUInt32 >>> ((2 : Int32) &&& 31).toUInt32).toInt32) &&& (3 : Int32)) - (1 : Int32))).toInt64)) (own_mv (p6 &&& (16 : Int32)) q4 ((own_e q1 q2 (own_fl (p6 &&& (1 : Int32)))) + ((((((p6).toUInt32 >>> ((5 : Int32) &&& 31).toUInt32).toInt32) &&& (3 : Int32)) - (1 : Int32))).toInt64)) (own_fl (p6 &&& (128 : Int32))))))), .unset] [])) t → Steps p.tables e below (s₁.setTop (mkF m 0 #[.val (.long q1), .second, .val (.long q2), .second, .val (.long q3), .second, .val (.long q4), .second, .val (.long q5), .second, .val (.int p6), .unset, .unset, .unset, .unset, .unset, .unset, .unset, .unset, .unset] [])) t := by
          intro t k
          refine R171 t ?_
          refine XS.ifNo X170.here hx rfl (hb hby at_153) rfl ((if0 _ _).trans (feq hd).1) ?_
          exact k
        have R175 : ∀ t, Steps p.tables e below (T170.setTop (mkF m 160 #[.val (.long q1), .second, .val (.long q2), .second, .val (.long q3), .second, .val (.long q4), .second, .val (.long q5), .second, .val (.int p6), .val (.ref b1), .val (.long (own_mv (p6 &&& (2 : Int32)) q3 ((own_s q1 q2) + ((((((p6).toUInt32 >>> ((2 : Int32) &&& 31).toUInt32).toInt32) &&& (3 : Int32)) - (1 : Int32))).toInt64))), .second, .val (.long (own_mv (p6 &&& (16 : Int32)) q4 ((own_e q1 q2 (own_fl (p6 &&& (1 : Int32)))) + ((((((p6).toUInt32 >>> ((5 : Int32) &&& 31).toUInt32).toInt32) &&& (3 : Int32)) - (1 : Int32))).toInt64))), .second, .val (.ref b2), .val (.int (own_enc (own_s q1 q2) (own_e q1 q2 (own_fl (p6 &&& (1 : Int32)))) (own_s (own_mv (p6 &&& (2 : Int32)) q3 ((own_s q1 q2) + ((((((p6).toUInt32 >>> ((2 : Int32) &&& 31).toUInt32).toInt32) &&& (3 : Int32)) - (1 : Int32))).toInt64)) (own_mv (p6 &&& (16 : Int32)) q4 ((own_e q1 q2 (own_fl (p6 &&& (1 : Int32)))) + ((((((p6).toUInt32 >>> ((5 : Int32) &&& 31).toUInt32).toInt32) &&& (3 : Int32)) - (1 : Int32))).toInt64))) (own_e (own_mv (p6 &&& (2 : Int32)) q3 ((own_s q1 q2) + ((((((p6).toUInt32 >>> ((2 : Int32) &&& 31).toUInt32).toInt32) &&& (3 : Int32)) - (1 : Int32))).toInt64)) (own_mv (p6 &&& (16 : Int32)) q4 ((own_e q1 q2 (own_fl (p6 &&& (1 : Int32)))) + ((((((p6).toUInt32 >>> ((5 : Int32) &&& 31).toUInt32).toInt32) &&& (3 : Int32)) - (1 : Int32))).toInt64)) (own_fl (p6 &&& (128 : Int32)))))), .val (.int (own_exp (own_in (own_s q1 q2) (own_e q1 q2 (own_fl (p6 &&& (1 : Int32)))) (own_s (own_mv (p6 &&& (2 : Int32)) q3 ((own_s q1 q2) + ((((((p6).toUInt32 >>> ((2 : Int32) &&& 31).toUInt32).toInt32) &&& (3 : Int32)) - (1 : Int32))).toInt64)) (own_mv (p6 &&& (16 : Int32)) q4 ((own_e q1 q2 (own_fl (p6 &&& (1 : Int32)))) + ((((((p6).toUInt32 >>> ((5 : Int32) &&& 31).toUInt32).toInt32) &&& (3 : Int32)) - (1 : Int32))).toInt64)))) (own_in (own_s q1 q2) (own_e q1 q2 (own_fl (p6 &&& (1 : Int32)))) (own_e (own_mv (p6 &&& (2 : Int32)) q3 ((own_s q1 q2) + ((((((p6).toUInt32 >>> ((2 : Int32) &&& 31).toUInt32).toInt32) &&& (3 : Int32)) - (1 : Int32))).toInt64)) (own_mv (p6 &&& (16 : Int32)) q4 ((own_e q1 q2 (own_fl (p6 &&& (1 : Int32)))) + ((((((p6).toUInt32 >>> ((5 : Int32) &&& 31).toUInt32).toInt32) &&& (3 : Int32)) - (1 : Int32))).toInt64)) (own_fl (p6 &&& (128 : Int32))))))), .unset] [(.long q5), (.ref b1)])) t → Steps p.tables e below (s₁.setTop (mkF m 0 #[.val (.long q1), .second, .val (.long q2), .second, .val (.long q3), .second, .val (.long q4), .second, .val (.long q5), .second, .val (.int p6), .unset, .unset, .unset, .unset, .unset, .unset, .unset, .unset, .unset] [])) t := by
          intro t k
          refine R174 t ?_
          refine XS.aload X170.here hx rfl (hb hby at_156) rfl rfl ?_
          refine XS.lload X170.here hx rfl (hb hby at_158) rfl ?_
          exact k
        obtain ⟨_, _, ⟨T176, L176, k176, n176⟩, -, X176, ⟨Lc176, hQ176, l176, y176, z176⟩, st176⟩ := Jvm.LawKit.callS X170 hx (y := (⟨"com/example/varese/varese/IntervalEnclosesPinLaw", "in", "(Lcom/example/varese/varese/Interval;J)Z"⟩ : MethodName)) hown (mvT hZ (hw _ (List.mem_of_getElem? (i := 41) rfl))) (mvT hZ (hw _ (List.mem_of_getElem? (i := 42) rfl))) (mvT hZ (hw _ (List.mem_of_getElem? (i := 2) rfl))) (mvT hZ (hw _ (List.mem_of_getElem? (i := 43) rfl))) (by decide) (backOf (W := 0) (rm9 l Z a0 hw [] b1 q5 (own_s q1 q2) (own_e q1 q2 (own_fl (p6 &&& (1 : Int32)))) T135.heap n0 Z135 E_136 F_137 F_138) hZ (hw _ (List.mem_of_getElem? (i := 43) rfl)) (hw _ (List.mem_of_getElem? (i := 2) rfl)) (by decide) (by decide)) (g := (mkF m 160 #[.val (.long q1), .second, .val (.long q2), .second, .val (.long q3), .second, .val (.long q4), .second, .val (.long q5), .second, .val (.int p6), .val (.ref b1), .val (.long (own_mv (p6 &&& (2 : Int32)) q3 ((own_s q1 q2) + ((((((p6).toUInt32 >>> ((2 : Int32) &&& 31).toUInt32).toInt32) &&& (3 : Int32)) - (1 : Int32))).toInt64))), .second, .val (.long (own_mv (p6 &&& (16 : Int32)) q4 ((own_e q1 q2 (own_fl (p6 &&& (1 : Int32)))) + ((((((p6).toUInt32 >>> ((5 : Int32) &&& 31).toUInt32).toInt32) &&& (3 : Int32)) - (1 : Int32))).toInt64))), .second, .val (.ref b2), .val (.int (own_enc (own_s q1 q2) (own_e q1 q2 (own_fl (p6 &&& (1 : Int32)))) (own_s (own_mv (p6 &&& (2 : Int32)) q3 ((own_s q1 q2) + ((((((p6).toUInt32 >>> ((2 : Int32) &&& 31).toUInt32).toInt32) &&& (3 : Int32)) - (1 : Int32))).toInt64)) (own_mv (p6 &&& (16 : Int32)) q4 ((own_e q1 q2 (own_fl (p6 &&& (1 : Int32)))) + ((((((p6).toUInt32 >>> ((5 : Int32) &&& 31).toUInt32).toInt32) &&& (3 : Int32)) - (1 : Int32))).toInt64))) (own_e (own_mv (p6 &&& (2 : Int32)) q3 ((own_s q1 q2) + ((((((p6).toUInt32 >>> ((2 : Int32) &&& 31).toUInt32).toInt32) &&& (3 : Int32)) - (1 : Int32))).toInt64)) (own_mv (p6 &&& (16 : Int32)) q4 ((own_e q1 q2 (own_fl (p6 &&& (1 : Int32)))) + ((((((p6).toUInt32 >>> ((5 : Int32) &&& 31).toUInt32).toInt32) &&& (3 : Int32)) - (1 : Int32))).toInt64)) (own_fl (p6 &&& (128 : Int32)))))), .val (.int (own_exp (own_in (own_s q1 q2) (own_e q1 q2 (own_fl (p6 &&& (1 : Int32)))) (own_s (own_mv (p6 &&& (2 : Int32)) q3 ((own_s q1 q2) + ((((((p6).toUInt32 >>> ((2 : Int32) &&& 31).toUInt32).toInt32) &&& (3 : Int32)) - (1 : Int32))).toInt64)) (own_mv (p6 &&& (16 : Int32)) q4 ((own_e q1 q2 (own_fl (p6 &&& (1 : Int32)))) + ((((((p6).toUInt32 >>> ((5 : Int32) &&& 31).toUInt32).toInt32) &&& (3 : Int32)) - (1 : Int32))).toInt64)))) (own_in (own_s q1 q2) (own_e q1 q2 (own_fl (p6 &&& (1 : Int32)))) (own_e (own_mv (p6 &&& (2 : Int32)) q3 ((own_s q1 q2) + ((((((p6).toUInt32 >>> ((2 : Int32) &&& 31).toUInt32).toInt32) &&& (3 : Int32)) - (1 : Int32))).toInt64)) (own_mv (p6 &&& (16 : Int32)) q4 ((own_e q1 q2 (own_fl (p6 &&& (1 : Int32)))) + ((((((p6).toUInt32 >>> ((5 : Int32) &&& 31).toUInt32).toInt32) &&& (3 : Int32)) - (1 : Int32))).toInt64)) (own_fl (p6 &&& (128 : Int32))))))), .unset] [(.long q5), (.ref b1)])) rfl (by rw [hml]; rfl) (argsL := [(.ref b1), (.long q5)]) (rest := []) (lenOf pd_6 rfl) rfl (by show 2 * 0 + _ ≤ _; exact Nat.le_of_eq rfl) (hb hby at_160) (fun _ _ => ⟨rfl, e170, (by decide : 2 + 0 ≤ _), (by decide : 4 + 0 ≤ _)⟩)
        dsimp only [Pt.U, Pt.locs, Pt.cells, Pt.slots] at X176 l176 y176 z176 st176 hQ176
        subst l176 y176 z176
        obtain ⟨rfl, M176, e176⟩ := hQ176
        have N176 := Fr.app N170 M176
        have R177 : ∀ t, Steps p.tables e below (T176.setTop (mkF m 163 #[.val (.long q1), .second, .val (.long q2), .second, .val (.long q3), .second, .val (.long q4), .second, .val (.long q5), .second, .val (.int p6), .val (.ref b1), .val (.long (own_mv (p6 &&& (2 : Int32)) q3 ((own_s q1 q2) + ((((((p6).toUInt32 >>> ((2 : Int32) &&& 31).toUInt32).toInt32) &&& (3 : Int32)) - (1 : Int32))).toInt64))), .second, .val (.long (own_mv (p6 &&& (16 : Int32)) q4 ((own_e q1 q2 (own_fl (p6 &&& (1 : Int32)))) + ((((((p6).toUInt32 >>> ((5 : Int32) &&& 31).toUInt32).toInt32) &&& (3 : Int32)) - (1 : Int32))).toInt64))), .second, .val (.ref b2), .val (.int (own_enc (own_s q1 q2) (own_e q1 q2 (own_fl (p6 &&& (1 : Int32)))) (own_s (own_mv (p6 &&& (2 : Int32)) q3 ((own_s q1 q2) + ((((((p6).toUInt32 >>> ((2 : Int32) &&& 31).toUInt32).toInt32) &&& (3 : Int32)) - (1 : Int32))).toInt64)) (own_mv (p6 &&& (16 : Int32)) q4 ((own_e q1 q2 (own_fl (p6 &&& (1 : Int32)))) + ((((((p6).toUInt32 >>> ((5 : Int32) &&& 31).toUInt32).toInt32) &&& (3 : Int32)) - (1 : Int32))).toInt64))) (own_e (own_mv (p6 &&& (2 : Int32)) q3 ((own_s q1 q2) + ((((((p6).toUInt32 >>> ((2 : Int32) &&& 31).toUInt32).toInt32) &&& (3 : Int32)) - (1 : Int32))).toInt64)) (own_mv (p6 &&& (16 : Int32)) q4 ((own_e q1 q2 (own_fl (p6 &&& (1 : Int32)))) + ((((((p6).toUInt32 >>> ((5 : Int32) &&& 31).toUInt32).toInt32) &&& (3 : Int32)) - (1 : Int32))).toInt64)) (own_fl (p6 &&& (128 : Int32)))))), .val (.int (own_exp (own_in (own_s q1 q2) (own_e q1 q2 (own_fl (p6 &&& (1 : Int32)))) (own_s (own_mv (p6 &&& (2 : Int32)) q3 ((own_s q1 q2) + ((((((p6).toUInt32 >>> ((2 : Int32) &&& 31).toUInt32).toInt32) &&& (3 : Int32)) - (1 : Int32))).toInt64)) (own_mv (p6 &&& (16 : Int32)) q4 ((own_e q1 q2 (own_fl (p6 &&& (1 : Int32)))) + ((((((p6).toUInt32 >>> ((5 : Int32) &&& 31).toUInt32).toInt32) &&& (3 : Int32)) - (1 : Int32))).toInt64)))) (own_in (own_s q1 q2) (own_e q1 q2 (own_fl (p6 &&& (1 : Int32)))) (own_e (own_mv (p6 &&& (2 : Int32)) q3 ((own_s q1 q2) + ((((((p6).toUInt32 >>> ((2 : Int32) &&& 31).toUInt32).toInt32) &&& (3 : Int32)) - (1 : Int32))).toInt64)) (own_mv (p6 &&& (16 : Int32)) q4 ((own_e q1 q2 (own_fl (p6 &&& (1 : Int32)))) + ((((((p6).toUInt32 >>> ((5 : Int32) &&& 31).toUInt32).toInt32) &&& (3 : Int32)) - (1 : Int32))).toInt64)) (own_fl (p6 &&& (128 : Int32))))))), .unset] [(.int (own_in (own_s q1 q2) (own_e q1 q2 (own_fl (p6 &&& (1 : Int32)))) q5))])) t → Steps p.tables e below (s₁.setTop (mkF m 0 #[.val (.long q1), .second, .val (.long q2), .second, .val (.long q3), .second, .val (.long q4), .second, .val (.long q5), .second, .val (.int p6), .unset, .unset, .unset, .unset, .unset, .unset, .unset, .unset, .unset] [])) t := fun t k => R175 t (st176 _ k)
        by_cases he : (own_in (own_s q1 q2) (own_e q1 q2 (own_fl (p6 &&& (1 : Int32)))) q5) = (0 : Int32)
        · have R178 : ∀ t, Steps p.tables e below (T176.setTop (mkF m 170 #[.val (.long q1), .second, .val (.long q2), .second, .val (.long q3), .second, .val (.long q4), .second, .val (.long q5), .second, .val (.int p6), .val (.ref b1), .val (.long (own_mv (p6 &&& (2 : Int32)) q3 ((own_s q1 q2) + ((((((p6).toUInt32 >>> ((2 : Int32) &&& 31).toUInt32).toInt32) &&& (3 : Int32)) - (1 : Int32))).toInt64))), .second, .val (.long (own_mv (p6 &&& (16 : Int32)) q4 ((own_e q1 q2 (own_fl (p6 &&& (1 : Int32)))) + ((((((p6).toUInt32 >>> ((5 : Int32) &&& 31).toUInt32).toInt32) &&& (3 : Int32)) - (1 : Int32))).toInt64))), .second, .val (.ref b2), .val (.int (own_enc (own_s q1 q2) (own_e q1 q2 (own_fl (p6 &&& (1 : Int32)))) (own_s (own_mv (p6 &&& (2 : Int32)) q3 ((own_s q1 q2) + ((((((p6).toUInt32 >>> ((2 : Int32) &&& 31).toUInt32).toInt32) &&& (3 : Int32)) - (1 : Int32))).toInt64)) (own_mv (p6 &&& (16 : Int32)) q4 ((own_e q1 q2 (own_fl (p6 &&& (1 : Int32)))) + ((((((p6).toUInt32 >>> ((5 : Int32) &&& 31).toUInt32).toInt32) &&& (3 : Int32)) - (1 : Int32))).toInt64))) (own_e (own_mv (p6 &&& (2 : Int32)) q3 ((own_s q1 q2) + ((((((p6).toUInt32 >>> ((2 : Int32) &&& 31).toUInt32).toInt32) &&& (3 : Int32)) - (1 : Int32))).toInt64)) (own_mv (p6 &&& (16 : Int32)) q4 ((own_e q1 q2 (own_fl (p6 &&& (1 : Int32)))) + ((((((p6).toUInt32 >>> ((5 : Int32) &&& 31).toUInt32).toInt32) &&& (3 : Int32)) - (1 : Int32))).toInt64)) (own_fl (p6 &&& (128 : Int32)))))), .val (.int (own_exp (own_in (own_s q1 q2) (own_e q1 q2 (own_fl (p6 &&& (1 : Int32)))) (own_s (own_mv (p6 &&& (2 : Int32)) q3 ((own_s q1 q2) + ((((((p6).toUInt32 >>> ((2 : Int32) &&& 31).toUInt32).toInt32) &&& (3 : Int32)) - (1 : Int32))).toInt64)) (own_mv (p6 &&& (16 : Int32)) q4 ((own_e q1 q2 (own_fl (p6 &&& (1 : Int32)))) + ((((((p6).toUInt32 >>> ((5 : Int32) &&& 31).toUInt32).toInt32) &&& (3 : Int32)) - (1 : Int32))).toInt64)))) (own_in (own_s q1 q2) (own_e q1 q2 (own_fl (p6 &&& (1 : Int32)))) (own_e (own_mv (p6 &&& (2 : Int32)) q3 ((own_s q1 q2) + ((((((p6).toUInt32 >>> ((2 : Int32) &&& 31).toUInt32).toInt32) &&& (3 : Int32)) - (1 : Int32))).toInt64)) (own_mv (p6 &&& (16 : Int32)) q4 ((own_e q1 q2 (own_fl (p6 &&& (1 : Int32)))) + ((((((p6).toUInt32 >>> ((5 : Int32) &&& 31).toUInt32).toInt32) &&& (3 : Int32)) - (1 : Int32))).toInt64)) (own_fl (p6 &&& (128 : Int32))))))), .unset] [])) t → Steps p.tables e below (s₁.setTop (mkF m 0 #[.val (.long q1), .second, .val (.long q2), .second, .val (.long q3), .second, .val (.long q4), .second, .val (.long q5), .second, .val (.int p6), .unset, .unset, .unset, .unset, .unset, .unset, .unset, .unset, .unset] [])) t := by
            intro t k
            refine R177 t ?_
            refine XS.ifYes X176.here hx rfl (pc0 := 163) (pc' := 170) rfl (hb hby at_163) rfl ((if0 _ _).trans (teq he).1) (by decide) (by decide) ?_
            exact k
          have R179 : ∀ t, Steps p.tables e below (T176.setTop (mkF m 173 #[.val (.long q1), .second, .val (.long q2), .second, .val (.long q3), .second, .val (.long q4), .second, .val (.long q5), .second, .val (.int p6), .val (.ref b1), .val (.long (own_mv (p6 &&& (2 : Int32)) q3 ((own_s q1 q2) + ((((((p6).toUInt32 >>> ((2 : Int32) &&& 31).toUInt32).toInt32) &&& (3 : Int32)) - (1 : Int32))).toInt64))), .second, .val (.long (own_mv (p6 &&& (16 : Int32)) q4 ((own_e q1 q2 (own_fl (p6 &&& (1 : Int32)))) + ((((((p6).toUInt32 >>> ((5 : Int32) &&& 31).toUInt32).toInt32) &&& (3 : Int32)) - (1 : Int32))).toInt64))), .second, .val (.ref b2), .val (.int (own_enc (own_s q1 q2) (own_e q1 q2 (own_fl (p6 &&& (1 : Int32)))) (own_s (own_mv (p6 &&& (2 : Int32)) q3 ((own_s q1 q2) + ((((((p6).toUInt32 >>> ((2 : Int32) &&& 31).toUInt32).toInt32) &&& (3 : Int32)) - (1 : Int32))).toInt64)) (own_mv (p6 &&& (16 : Int32)) q4 ((own_e q1 q2 (own_fl (p6 &&& (1 : Int32)))) + ((((((p6).toUInt32 >>> ((5 : Int32) &&& 31).toUInt32).toInt32) &&& (3 : Int32)) - (1 : Int32))).toInt64))) (own_e (own_mv (p6 &&& (2 : Int32)) q3 ((own_s q1 q2) + ((((((p6).toUInt32 >>> ((2 : Int32) &&& 31).toUInt32).toInt32) &&& (3 : Int32)) - (1 : Int32))).toInt64)) (own_mv (p6 &&& (16 : Int32)) q4 ((own_e q1 q2 (own_fl (p6 &&& (1 : Int32)))) + ((((((p6).toUInt32 >>> ((5 : Int32) &&& 31).toUInt32).toInt32) &&& (3 : Int32)) - (1 : Int32))).toInt64)) (own_fl (p6 &&& (128 : Int32)))))), .val (.int (own_exp (own_in (own_s q1 q2) (own_e q1 q2 (own_fl (p6 &&& (1 : Int32)))) (own_s (own_mv (p6 &&& (2 : Int32)) q3 ((own_s q1 q2) + ((((((p6).toUInt32 >>> ((2 : Int32) &&& 31).toUInt32).toInt32) &&& (3 : Int32)) - (1 : Int32))).toInt64)) (own_mv (p6 &&& (16 : Int32)) q4 ((own_e q1 q2 (own_fl (p6 &&& (1 : Int32)))) + ((((((p6).toUInt32 >>> ((5 : Int32) &&& 31).toUInt32).toInt32) &&& (3 : Int32)) - (1 : Int32))).toInt64)))) (own_in (own_s q1 q2) (own_e q1 q2 (own_fl (p6 &&& (1 : Int32)))) (own_e (own_mv (p6 &&& (2 : Int32)) q3 ((own_s q1 q2) + ((((((p6).toUInt32 >>> ((2 : Int32) &&& 31).toUInt32).toInt32) &&& (3 : Int32)) - (1 : Int32))).toInt64)) (own_mv (p6 &&& (16 : Int32)) q4 ((own_e q1 q2 (own_fl (p6 &&& (1 : Int32)))) + ((((((p6).toUInt32 >>> ((5 : Int32) &&& 31).toUInt32).toInt32) &&& (3 : Int32)) - (1 : Int32))).toInt64)) (own_fl (p6 &&& (128 : Int32))))))), .val (.int (0 : Int32))] [])) t → Steps p.tables e below (s₁.setTop (mkF m 0 #[.val (.long q1), .second, .val (.long q2), .second, .val (.long q3), .second, .val (.long q4), .second, .val (.long q5), .second, .val (.int p6), .unset, .unset, .unset, .unset, .unset, .unset, .unset, .unset, .unset] [])) t := by
            intro t k
            refine R178 t ?_
            refine XS.iconst X176.here hx rfl (hb hby at_170) ?_
            refine XS.istore X176.here hx rfl (hb hby at_171) rfl (l' := #[.val (.long q1), .second, .val (.long q2), .second, .val (.long q3), .second, .val (.long q4), .second, .val (.long q5), .second, .val (.int p6), .val (.ref b1), .val (.long (own_mv (p6 &&& (2 : Int32)) q3 ((own_s q1 q2) + ((((((p6).toUInt32 >>> ((2 : Int32) &&& 31).toUInt32).toInt32) &&& (3 : Int32)) - (1 : Int32))).toInt64))), .second, .val (.long (own_mv (p6 &&& (16 : Int32)) q4 ((own_e q1 q2 (own_fl (p6 &&& (1 : Int32)))) + ((((((p6).toUInt32 >>> ((5 : Int32) &&& 31).toUInt32).toInt32) &&& (3 : Int32)) - (1 : Int32))).toInt64))), .second, .val (.ref b2), .val (.int (own_enc (own_s q1 q2) (own_e q1 q2 (own_fl (p6 &&& (1 : Int32)))) (own_s (own_mv (p6 &&& (2 : Int32)) q3 ((own_s q1 q2) + ((((((p6).toUInt32 >>> ((2 : Int32) &&& 31).toUInt32).toInt32) &&& (3 : Int32)) - (1 : Int32))).toInt64)) (own_mv (p6 &&& (16 : Int32)) q4 ((own_e q1 q2 (own_fl (p6 &&& (1 : Int32)))) + ((((((p6).toUInt32 >>> ((5 : Int32) &&& 31).toUInt32).toInt32) &&& (3 : Int32)) - (1 : Int32))).toInt64))) (own_e (own_mv (p6 &&& (2 : Int32)) q3 ((own_s q1 q2) + ((((((p6).toUInt32 >>> ((2 : Int32) &&& 31).toUInt32).toInt32) &&& (3 : Int32)) - (1 : Int32))).toInt64)) (own_mv (p6 &&& (16 : Int32)) q4 ((own_e q1 q2 (own_fl (p6 &&& (1 : Int32)))) + ((((((p6).toUInt32 >>> ((5 : Int32) &&& 31).toUInt32).toInt32) &&& (3 : Int32)) - (1 : Int32))).toInt64)) (own_fl (p6 &&& (128 : Int32)))))), .val (.int (own_exp (own_in (own_s q1 q2) (own_e q1 q2 (own_fl (p6 &&& (1 : Int32)))) (own_s (own_mv (p6 &&& (2 : Int32)) q3 ((own_s q1 q2) + ((((((p6).toUInt32 >>> ((2 : Int32) &&& 31).toUInt32).toInt32) &&& (3 : Int32)) - (1 : Int32))).toInt64)) (own_mv (p6 &&& (16 : Int32)) q4 ((own_e q1 q2 (own_fl (p6 &&& (1 : Int32)))) + ((((((p6).toUInt32 >>> ((5 : Int32) &&& 31).toUInt32).toInt32) &&& (3 : Int32)) - (1 : Int32))).toInt64)))) (own_in (own_s q1 q2) (own_e q1 q2 (own_fl (p6 &&& (1 : Int32)))) (own_e (own_mv (p6 &&& (2 : Int32)) q3 ((own_s q1 q2) + ((((((p6).toUInt32 >>> ((2 : Int32) &&& 31).toUInt32).toInt32) &&& (3 : Int32)) - (1 : Int32))).toInt64)) (own_mv (p6 &&& (16 : Int32)) q4 ((own_e q1 q2 (own_fl (p6 &&& (1 : Int32)))) + ((((((p6).toUInt32 >>> ((5 : Int32) &&& 31).toUInt32).toInt32) &&& (3 : Int32)) - (1 : Int32))).toInt64)) (own_fl (p6 &&& (128 : Int32))))))), .val (.int (0 : Int32))]) rfl ?_
            exact k
          rw [show (own_wit (own_enc (own_s q1 q2) (own_e q1 q2 (own_fl (p6 &&& (1 : Int32)))) (own_s (own_mv (p6 &&& (2 : Int32)) q3 ((own_s q1 q2) + ((((((p6).toUInt32 >>> ((2 : Int32) &&& 31).toUInt32).toInt32) &&& (3 : Int32)) - (1 : Int32))).toInt64)) (own_mv (p6 &&& (16 : Int32)) q4 ((own_e q1 q2 (own_fl (p6 &&& (1 : Int32)))) + ((((((p6).toUInt32 >>> ((5 : Int32) &&& 31).toUInt32).toInt32) &&& (3 : Int32)) - (1 : Int32))).toInt64))) (own_e (own_mv (p6 &&& (2 : Int32)) q3 ((own_s q1 q2) + ((((((p6).toUInt32 >>> ((2 : Int32) &&& 31).toUInt32).toInt32) &&& (3 : Int32)) - (1 : Int32))).toInt64)) (own_mv (p6 &&& (16 : Int32)) q4 ((own_e q1 q2 (own_fl (p6 &&& (1 : Int32)))) + ((((((p6).toUInt32 >>> ((5 : Int32) &&& 31).toUInt32).toInt32) &&& (3 : Int32)) - (1 : Int32))).toInt64)) (own_fl (p6 &&& (128 : Int32))))) (own_in (own_s (own_mv (p6 &&& (2 : Int32)) q3 ((own_s q1 q2) + ((((((p6).toUInt32 >>> ((2 : Int32) &&& 31).toUInt32).toInt32) &&& (3 : Int32)) - (1 : Int32))).toInt64)) (own_mv (p6 &&& (16 : Int32)) q4 ((own_e q1 q2 (own_fl (p6 &&& (1 : Int32)))) + ((((((p6).toUInt32 >>> ((5 : Int32) &&& 31).toUInt32).toInt32) &&& (3 : Int32)) - (1 : Int32))).toInt64))) (own_e (own_mv (p6 &&& (2 : Int32)) q3 ((own_s q1 q2) + ((((((p6).toUInt32 >>> ((2 : Int32) &&& 31).toUInt32).toInt32) &&& (3 : Int32)) - (1 : Int32))).toInt64)) (own_mv (p6 &&& (16 : Int32)) q4 ((own_e q1 q2 (own_fl (p6 &&& (1 : Int32)))) + ((((((p6).toUInt32 >>> ((5 : Int32) &&& 31).toUInt32).toInt32) &&& (3 : Int32)) - (1 : Int32))).toInt64)) (own_fl (p6 &&& (128 : Int32)))) q5) (own_in (own_s q1 q2) (own_e q1 q2 (own_fl (p6 &&& (1 : Int32)))) q5)) = 0 from ((if_neg hc).trans (if_neg hd)).trans (if_pos he)]
          exact ⟨_, _, X176, N176, e176, R179⟩
        · have R180 : ∀ t, Steps p.tables e below (T176.setTop (mkF m 166 #[.val (.long q1), .second, .val (.long q2), .second, .val (.long q3), .second, .val (.long q4), .second, .val (.long q5), .second, .val (.int p6), .val (.ref b1), .val (.long (own_mv (p6 &&& (2 : Int32)) q3 ((own_s q1 q2) + ((((((p6).toUInt32 >>> ((2 : Int32) &&& 31).toUInt32).toInt32) &&& (3 : Int32)) - (1 : Int32))).toInt64))), .second, .val (.long (own_mv (p6 &&& (16 : Int32)) q4 ((own_e q1 q2 (own_fl (p6 &&& (1 : Int32)))) + ((((((p6).toUInt32 >>> ((5 : Int32) &&& 31).toUInt32).toInt32) &&& (3 : Int32)) - (1 : Int32))).toInt64))), .second, .val (.ref b2), .val (.int (own_enc (own_s q1 q2) (own_e q1 q2 (own_fl (p6 &&& (1 : Int32)))) (own_s (own_mv (p6 &&& (2 : Int32)) q3 ((own_s q1 q2) + ((((((p6).toUInt32 >>> ((2 : Int32) &&& 31).toUInt32).toInt32) &&& (3 : Int32)) - (1 : Int32))).toInt64)) (own_mv (p6 &&& (16 : Int32)) q4 ((own_e q1 q2 (own_fl (p6 &&& (1 : Int32)))) + ((((((p6).toUInt32 >>> ((5 : Int32) &&& 31).toUInt32).toInt32) &&& (3 : Int32)) - (1 : Int32))).toInt64))) (own_e (own_mv (p6 &&& (2 : Int32)) q3 ((own_s q1 q2) + ((((((p6).toUInt32 >>> ((2 : Int32) &&& 31).toUInt32).toInt32) &&& (3 : Int32)) - (1 : Int32))).toInt64)) (own_mv (p6 &&& (16 : Int32)) q4 ((own_e q1 q2 (own_fl (p6 &&& (1 : Int32)))) + ((((((p6).toUInt32 >>> ((5 : Int32) &&& 31).toUInt32).toInt32) &&& (3 : Int32)) - (1 : Int32))).toInt64)) (own_fl (p6 &&& (128 : Int32)))))), .val (.int (own_exp (own_in (own_s q1 q2) (own_e q1 q2 (own_fl (p6 &&& (1 : Int32)))) (own_s (own_mv (p6 &&& (2 : Int32)) q3 ((own_s q1 q2) + ((((((p6).toUInt32 >>> ((2 : Int32) &&& 31).toUInt32).toInt32) &&& (3 : Int32)) - (1 : Int32))).toInt64)) (own_mv (p6 &&& (16 : Int32)) q4 ((own_e q1 q2 (own_fl (p6 &&& (1 : Int32)))) + ((((((p6).toUInt32 >>> ((5 : Int32) &&& 31).toUInt32).toInt32) &&& (3 : Int32)) - (1 : Int32))).toInt64)))) (own_in (own_s q1 q2) (own_e q1 q2 (own_fl (p6 &&& (1 : Int32)))) (own_e (own_mv (p6 &&& (2 : Int32)) q3 ((own_s q1 q2) + ((((((p6).toUInt32 >>> ((2 : Int32) &&& 31).toUInt32).toInt32) &&& (3 : Int32)) - (1 : Int32))).toInt64)) (own_mv (p6 &&& (16 : Int32)) q4 ((own_e q1 q2 (own_fl (p6 &&& (1 : Int32)))) + ((((((p6).toUInt32 >>> ((5 : Int32) &&& 31).toUInt32).toInt32) &&& (3 : Int32)) - (1 : Int32))).toInt64)) (own_fl (p6 &&& (128 : Int32))))))), .unset] [])) t → Steps p.tables e below (s₁.setTop (mkF m 0 #[.val (.long q1), .second, .val (.long q2), .second, .val (.long q3), .second, .val (.long q4), .second, .val (.long q5), .second, .val (.int p6), .unset, .unset, .unset, .unset, .unset, .unset, .unset, .unset, .unset] [])) t := by
            intro t k
            refine R177 t ?_
            refine XS.ifNo X176.here hx rfl (hb hby at_163) rfl ((if0 _ _).trans (feq he).1) ?_
            exact k
          have R181 : ∀ t, Steps p.tables e below (T176.setTop (mkF m 173 #[.val (.long q1), .second, .val (.long q2), .second, .val (.long q3), .second, .val (.long q4), .second, .val (.long q5), .second, .val (.int p6), .val (.ref b1), .val (.long (own_mv (p6 &&& (2 : Int32)) q3 ((own_s q1 q2) + ((((((p6).toUInt32 >>> ((2 : Int32) &&& 31).toUInt32).toInt32) &&& (3 : Int32)) - (1 : Int32))).toInt64))), .second, .val (.long (own_mv (p6 &&& (16 : Int32)) q4 ((own_e q1 q2 (own_fl (p6 &&& (1 : Int32)))) + ((((((p6).toUInt32 >>> ((5 : Int32) &&& 31).toUInt32).toInt32) &&& (3 : Int32)) - (1 : Int32))).toInt64))), .second, .val (.ref b2), .val (.int (own_enc (own_s q1 q2) (own_e q1 q2 (own_fl (p6 &&& (1 : Int32)))) (own_s (own_mv (p6 &&& (2 : Int32)) q3 ((own_s q1 q2) + ((((((p6).toUInt32 >>> ((2 : Int32) &&& 31).toUInt32).toInt32) &&& (3 : Int32)) - (1 : Int32))).toInt64)) (own_mv (p6 &&& (16 : Int32)) q4 ((own_e q1 q2 (own_fl (p6 &&& (1 : Int32)))) + ((((((p6).toUInt32 >>> ((5 : Int32) &&& 31).toUInt32).toInt32) &&& (3 : Int32)) - (1 : Int32))).toInt64))) (own_e (own_mv (p6 &&& (2 : Int32)) q3 ((own_s q1 q2) + ((((((p6).toUInt32 >>> ((2 : Int32) &&& 31).toUInt32).toInt32) &&& (3 : Int32)) - (1 : Int32))).toInt64)) (own_mv (p6 &&& (16 : Int32)) q4 ((own_e q1 q2 (own_fl (p6 &&& (1 : Int32)))) + ((((((p6).toUInt32 >>> ((5 : Int32) &&& 31).toUInt32).toInt32) &&& (3 : Int32)) - (1 : Int32))).toInt64)) (own_fl (p6 &&& (128 : Int32)))))), .val (.int (own_exp (own_in (own_s q1 q2) (own_e q1 q2 (own_fl (p6 &&& (1 : Int32)))) (own_s (own_mv (p6 &&& (2 : Int32)) q3 ((own_s q1 q2) + ((((((p6).toUInt32 >>> ((2 : Int32) &&& 31).toUInt32).toInt32) &&& (3 : Int32)) - (1 : Int32))).toInt64)) (own_mv (p6 &&& (16 : Int32)) q4 ((own_e q1 q2 (own_fl (p6 &&& (1 : Int32)))) + ((((((p6).toUInt32 >>> ((5 : Int32) &&& 31).toUInt32).toInt32) &&& (3 : Int32)) - (1 : Int32))).toInt64)))) (own_in (own_s q1 q2) (own_e q1 q2 (own_fl (p6 &&& (1 : Int32)))) (own_e (own_mv (p6 &&& (2 : Int32)) q3 ((own_s q1 q2) + ((((((p6).toUInt32 >>> ((2 : Int32) &&& 31).toUInt32).toInt32) &&& (3 : Int32)) - (1 : Int32))).toInt64)) (own_mv (p6 &&& (16 : Int32)) q4 ((own_e q1 q2 (own_fl (p6 &&& (1 : Int32)))) + ((((((p6).toUInt32 >>> ((5 : Int32) &&& 31).toUInt32).toInt32) &&& (3 : Int32)) - (1 : Int32))).toInt64)) (own_fl (p6 &&& (128 : Int32))))))), .val (.int (1 : Int32))] [])) t → Steps p.tables e below (s₁.setTop (mkF m 0 #[.val (.long q1), .second, .val (.long q2), .second, .val (.long q3), .second, .val (.long q4), .second, .val (.long q5), .second, .val (.int p6), .unset, .unset, .unset, .unset, .unset, .unset, .unset, .unset, .unset] [])) t := by
            intro t k
            refine R180 t ?_
            refine XS.iconst X176.here hx rfl (hb hby at_166) ?_
            refine XS.goto X176.here hx rfl (pc0 := 167) (pc' := 171) rfl (hb hby at_167) (by decide) (by decide) ?_
            refine XS.istore X176.here hx rfl (hb hby at_171) rfl (l' := #[.val (.long q1), .second, .val (.long q2), .second, .val (.long q3), .second, .val (.long q4), .second, .val (.long q5), .second, .val (.int p6), .val (.ref b1), .val (.long (own_mv (p6 &&& (2 : Int32)) q3 ((own_s q1 q2) + ((((((p6).toUInt32 >>> ((2 : Int32) &&& 31).toUInt32).toInt32) &&& (3 : Int32)) - (1 : Int32))).toInt64))), .second, .val (.long (own_mv (p6 &&& (16 : Int32)) q4 ((own_e q1 q2 (own_fl (p6 &&& (1 : Int32)))) + ((((((p6).toUInt32 >>> ((5 : Int32) &&& 31).toUInt32).toInt32) &&& (3 : Int32)) - (1 : Int32))).toInt64))), .second, .val (.ref b2), .val (.int (own_enc (own_s q1 q2) (own_e q1 q2 (own_fl (p6 &&& (1 : Int32)))) (own_s (own_mv (p6 &&& (2 : Int32)) q3 ((own_s q1 q2) + ((((((p6).toUInt32 >>> ((2 : Int32) &&& 31).toUInt32).toInt32) &&& (3 : Int32)) - (1 : Int32))).toInt64)) (own_mv (p6 &&& (16 : Int32)) q4 ((own_e q1 q2 (own_fl (p6 &&& (1 : Int32)))) + ((((((p6).toUInt32 >>> ((5 : Int32) &&& 31).toUInt32).toInt32) &&& (3 : Int32)) - (1 : Int32))).toInt64))) (own_e (own_mv (p6 &&& (2 : Int32)) q3 ((own_s q1 q2) + ((((((p6).toUInt32 >>> ((2 : Int32) &&& 31).toUInt32).toInt32) &&& (3 : Int32)) - (1 : Int32))).toInt64)) (own_mv (p6 &&& (16 : Int32)) q4 ((own_e q1 q2 (own_fl (p6 &&& (1 : Int32)))) + ((((((p6).toUInt32 >>> ((5 : Int32) &&& 31).toUInt32).toInt32) &&& (3 : Int32)) - (1 : Int32))).toInt64)) (own_fl (p6 &&& (128 : Int32)))))), .val (.int (own_exp (own_in (own_s q1 q2) (own_e q1 q2 (own_fl (p6 &&& (1 : Int32)))) (own_s (own_mv (p6 &&& (2 : Int32)) q3 ((own_s q1 q2) + ((((((p6).toUInt32 >>> ((2 : Int32) &&& 31).toUInt32).toInt32) &&& (3 : Int32)) - (1 : Int32))).toInt64)) (own_mv (p6 &&& (16 : Int32)) q4 ((own_e q1 q2 (own_fl (p6 &&& (1 : Int32)))) + ((((((p6).toUInt32 >>> ((5 : Int32) &&& 31).toUInt32).toInt32) &&& (3 : Int32)) - (1 : Int32))).toInt64)))) (own_in (own_s q1 q2) (own_e q1 q2 (own_fl (p6 &&& (1 : Int32)))) (own_e (own_mv (p6 &&& (2 : Int32)) q3 ((own_s q1 q2) + ((((((p6).toUInt32 >>> ((2 : Int32) &&& 31).toUInt32).toInt32) &&& (3 : Int32)) - (1 : Int32))).toInt64)) (own_mv (p6 &&& (16 : Int32)) q4 ((own_e q1 q2 (own_fl (p6 &&& (1 : Int32)))) + ((((((p6).toUInt32 >>> ((5 : Int32) &&& 31).toUInt32).toInt32) &&& (3 : Int32)) - (1 : Int32))).toInt64)) (own_fl (p6 &&& (128 : Int32))))))), .val (.int (1 : Int32))]) rfl ?_
            exact k
          rw [show (own_wit (own_enc (own_s q1 q2) (own_e q1 q2 (own_fl (p6 &&& (1 : Int32)))) (own_s (own_mv (p6 &&& (2 : Int32)) q3 ((own_s q1 q2) + ((((((p6).toUInt32 >>> ((2 : Int32) &&& 31).toUInt32).toInt32) &&& (3 : Int32)) - (1 : Int32))).toInt64)) (own_mv (p6 &&& (16 : Int32)) q4 ((own_e q1 q2 (own_fl (p6 &&& (1 : Int32)))) + ((((((p6).toUInt32 >>> ((5 : Int32) &&& 31).toUInt32).toInt32) &&& (3 : Int32)) - (1 : Int32))).toInt64))) (own_e (own_mv (p6 &&& (2 : Int32)) q3 ((own_s q1 q2) + ((((((p6).toUInt32 >>> ((2 : Int32) &&& 31).toUInt32).toInt32) &&& (3 : Int32)) - (1 : Int32))).toInt64)) (own_mv (p6 &&& (16 : Int32)) q4 ((own_e q1 q2 (own_fl (p6 &&& (1 : Int32)))) + ((((((p6).toUInt32 >>> ((5 : Int32) &&& 31).toUInt32).toInt32) &&& (3 : Int32)) - (1 : Int32))).toInt64)) (own_fl (p6 &&& (128 : Int32))))) (own_in (own_s (own_mv (p6 &&& (2 : Int32)) q3 ((own_s q1 q2) + ((((((p6).toUInt32 >>> ((2 : Int32) &&& 31).toUInt32).toInt32) &&& (3 : Int32)) - (1 : Int32))).toInt64)) (own_mv (p6 &&& (16 : Int32)) q4 ((own_e q1 q2 (own_fl (p6 &&& (1 : Int32)))) + ((((((p6).toUInt32 >>> ((5 : Int32) &&& 31).toUInt32).toInt32) &&& (3 : Int32)) - (1 : Int32))).toInt64))) (own_e (own_mv (p6 &&& (2 : Int32)) q3 ((own_s q1 q2) + ((((((p6).toUInt32 >>> ((2 : Int32) &&& 31).toUInt32).toInt32) &&& (3 : Int32)) - (1 : Int32))).toInt64)) (own_mv (p6 &&& (16 : Int32)) q4 ((own_e q1 q2 (own_fl (p6 &&& (1 : Int32)))) + ((((((p6).toUInt32 >>> ((5 : Int32) &&& 31).toUInt32).toInt32) &&& (3 : Int32)) - (1 : Int32))).toInt64)) (own_fl (p6 &&& (128 : Int32)))) q5) (own_in (own_s q1 q2) (own_e q1 q2 (own_fl (p6 &&& (1 : Int32)))) q5)) = 1 from ((if_neg hc).trans (if_neg hd)).trans (if_neg he)]
          exact ⟨_, _, X176, N176, e176, R181⟩
  have R182 : ∀ t, Steps p.tables e below (T165.setTop (mkF m 177 #[.val (.long q1), .second, .val (.long q2), .second, .val (.long q3), .second, .val (.long q4), .second, .val (.long q5), .second, .val (.int p6), .val (.ref b1), .val (.long (own_mv (p6 &&& (2 : Int32)) q3 ((own_s q1 q2) + ((((((p6).toUInt32 >>> ((2 : Int32) &&& 31).toUInt32).toInt32) &&& (3 : Int32)) - (1 : Int32))).toInt64))), .second, .val (.long (own_mv (p6 &&& (16 : Int32)) q4 ((own_e q1 q2 (own_fl (p6 &&& (1 : Int32)))) + ((((((p6).toUInt32 >>> ((5 : Int32) &&& 31).toUInt32).toInt32) &&& (3 : Int32)) - (1 : Int32))).toInt64))), .second, .val (.ref b2), .val (.int (own_enc (own_s q1 q2) (own_e q1 q2 (own_fl (p6 &&& (1 : Int32)))) (own_s (own_mv (p6 &&& (2 : Int32)) q3 ((own_s q1 q2) + ((((((p6).toUInt32 >>> ((2 : Int32) &&& 31).toUInt32).toInt32) &&& (3 : Int32)) - (1 : Int32))).toInt64)) (own_mv (p6 &&& (16 : Int32)) q4 ((own_e q1 q2 (own_fl (p6 &&& (1 : Int32)))) + ((((((p6).toUInt32 >>> ((5 : Int32) &&& 31).toUInt32).toInt32) &&& (3 : Int32)) - (1 : Int32))).toInt64))) (own_e (own_mv (p6 &&& (2 : Int32)) q3 ((own_s q1 q2) + ((((((p6).toUInt32 >>> ((2 : Int32) &&& 31).toUInt32).toInt32) &&& (3 : Int32)) - (1 : Int32))).toInt64)) (own_mv (p6 &&& (16 : Int32)) q4 ((own_e q1 q2 (own_fl (p6 &&& (1 : Int32)))) + ((((((p6).toUInt32 >>> ((5 : Int32) &&& 31).toUInt32).toInt32) &&& (3 : Int32)) - (1 : Int32))).toInt64)) (own_fl (p6 &&& (128 : Int32)))))), .val (.int (own_exp (own_in (own_s q1 q2) (own_e q1 q2 (own_fl (p6 &&& (1 : Int32)))) (own_s (own_mv (p6 &&& (2 : Int32)) q3 ((own_s q1 q2) + ((((((p6).toUInt32 >>> ((2 : Int32) &&& 31).toUInt32).toInt32) &&& (3 : Int32)) - (1 : Int32))).toInt64)) (own_mv (p6 &&& (16 : Int32)) q4 ((own_e q1 q2 (own_fl (p6 &&& (1 : Int32)))) + ((((((p6).toUInt32 >>> ((5 : Int32) &&& 31).toUInt32).toInt32) &&& (3 : Int32)) - (1 : Int32))).toInt64)))) (own_in (own_s q1 q2) (own_e q1 q2 (own_fl (p6 &&& (1 : Int32)))) (own_e (own_mv (p6 &&& (2 : Int32)) q3 ((own_s q1 q2) + ((((((p6).toUInt32 >>> ((2 : Int32) &&& 31).toUInt32).toInt32) &&& (3 : Int32)) - (1 : Int32))).toInt64)) (own_mv (p6 &&& (16 : Int32)) q4 ((own_e q1 q2 (own_fl (p6 &&& (1 : Int32)))) + ((((((p6).toUInt32 >>> ((5 : Int32) &&& 31).toUInt32).toInt32) &&& (3 : Int32)) - (1 : Int32))).toInt64)) (own_fl (p6 &&& (128 : Int32))))))), .val (.int (own_wit (own_enc (own_s q1 q2) (own_e q1 q2 (own_fl (p6 &&& (1 : Int32)))) (own_s (own_mv (p6 &&& (2 : Int32)) q3 ((own_s q1 q2) + ((((((p6).toUInt32 >>> ((2 : Int32) &&& 31).toUInt32).toInt32) &&& (3 : Int32)) - (1 : Int32))).toInt64)) (own_mv (p6 &&& (16 : Int32)) q4 ((own_e q1 q2 (own_fl (p6 &&& (1 : Int32)))) + ((((((p6).toUInt32 >>> ((5 : Int32) &&& 31).toUInt32).toInt32) &&& (3 : Int32)) - (1 : Int32))).toInt64))) (own_e (own_mv (p6 &&& (2 : Int32)) q3 ((own_s q1 q2) + ((((((p6).toUInt32 >>> ((2 : Int32) &&& 31).toUInt32).toInt32) &&& (3 : Int32)) - (1 : Int32))).toInt64)) (own_mv (p6 &&& (16 : Int32)) q4 ((own_e q1 q2 (own_fl (p6 &&& (1 : Int32)))) + ((((((p6).toUInt32 >>> ((5 : Int32) &&& 31).toUInt32).toInt32) &&& (3 : Int32)) - (1 : Int32))).toInt64)) (own_fl (p6 &&& (128 : Int32))))) (own_in (own_s (own_mv (p6 &&& (2 : Int32)) q3 ((own_s q1 q2) + ((((((p6).toUInt32 >>> ((2 : Int32) &&& 31).toUInt32).toInt32) &&& (3 : Int32)) - (1 : Int32))).toInt64)) (own_mv (p6 &&& (16 : Int32)) q4 ((own_e q1 q2 (own_fl (p6 &&& (1 : Int32)))) + ((((((p6).toUInt32 >>> ((5 : Int32) &&& 31).toUInt32).toInt32) &&& (3 : Int32)) - (1 : Int32))).toInt64))) (own_e (own_mv (p6 &&& (2 : Int32)) q3 ((own_s q1 q2) + ((((((p6).toUInt32 >>> ((2 : Int32) &&& 31).toUInt32).toInt32) &&& (3 : Int32)) - (1 : Int32))).toInt64)) (own_mv (p6 &&& (16 : Int32)) q4 ((own_e q1 q2 (own_fl (p6 &&& (1 : Int32)))) + ((((((p6).toUInt32 >>> ((5 : Int32) &&& 31).toUInt32).toInt32) &&& (3 : Int32)) - (1 : Int32))).toInt64)) (own_fl (p6 &&& (128 : Int32)))) q5) (own_in (own_s q1 q2) (own_e q1 q2 (own_fl (p6 &&& (1 : Int32)))) q5)))] [(.int (own_exp (own_in (own_s q1 q2) (own_e q1 q2 (own_fl (p6 &&& (1 : Int32)))) (own_s (own_mv (p6 &&& (2 : Int32)) q3 ((own_s q1 q2) + ((((((p6).toUInt32 >>> ((2 : Int32) &&& 31).toUInt32).toInt32) &&& (3 : Int32)) - (1 : Int32))).toInt64)) (own_mv (p6 &&& (16 : Int32)) q4 ((own_e q1 q2 (own_fl (p6 &&& (1 : Int32)))) + ((((((p6).toUInt32 >>> ((5 : Int32) &&& 31).toUInt32).toInt32) &&& (3 : Int32)) - (1 : Int32))).toInt64)))) (own_in (own_s q1 q2) (own_e q1 q2 (own_fl (p6 &&& (1 : Int32)))) (own_e (own_mv (p6 &&& (2 : Int32)) q3 ((own_s q1 q2) + ((((((p6).toUInt32 >>> ((2 : Int32) &&& 31).toUInt32).toInt32) &&& (3 : Int32)) - (1 : Int32))).toInt64)) (own_mv (p6 &&& (16 : Int32)) q4 ((own_e q1 q2 (own_fl (p6 &&& (1 : Int32)))) + ((((((p6).toUInt32 >>> ((5 : Int32) &&& 31).toUInt32).toInt32) &&& (3 : Int32)) - (1 : Int32))).toInt64)) (own_fl (p6 &&& (128 : Int32))))))), (.int (own_enc (own_s q1 q2) (own_e q1 q2 (own_fl (p6 &&& (1 : Int32)))) (own_s (own_mv (p6 &&& (2 : Int32)) q3 ((own_s q1 q2) + ((((((p6).toUInt32 >>> ((2 : Int32) &&& 31).toUInt32).toInt32) &&& (3 : Int32)) - (1 : Int32))).toInt64)) (own_mv (p6 &&& (16 : Int32)) q4 ((own_e q1 q2 (own_fl (p6 &&& (1 : Int32)))) + ((((((p6).toUInt32 >>> ((5 : Int32) &&& 31).toUInt32).toInt32) &&& (3 : Int32)) - (1 : Int32))).toInt64))) (own_e (own_mv (p6 &&& (2 : Int32)) q3 ((own_s q1 q2) + ((((((p6).toUInt32 >>> ((2 : Int32) &&& 31).toUInt32).toInt32) &&& (3 : Int32)) - (1 : Int32))).toInt64)) (own_mv (p6 &&& (16 : Int32)) q4 ((own_e q1 q2 (own_fl (p6 &&& (1 : Int32)))) + ((((((p6).toUInt32 >>> ((5 : Int32) &&& 31).toUInt32).toInt32) &&& (3 : Int32)) - (1 : Int32))).toInt64)) (own_fl (p6 &&& (128 : Int32))))))])) t → Steps p.tables e below (s₁.setTop (mkF m 0 #[.val (.long q1), .second, .val (.long q2), .second, .val (.long q3), .second, .val (.long q4), .second, .val (.long q5), .second, .val (.int p6), .unset, .unset, .unset, .unset, .unset, .unset, .unset, .unset, .unset] [])) t := by
    intro t k
    refine R165 t ?_
    refine XS.iload X165.here hx rfl (hb hby at_173) rfl ?_
    refine XS.iload X165.here hx rfl (hb hby at_175) rfl ?_
    exact k
  have R183 : ∀ t, Steps p.tables e below (T165.setTop (mkF m 180 #[.val (.long q1), .second, .val (.long q2), .second, .val (.long q3), .second, .val (.long q4), .second, .val (.long q5), .second, .val (.int p6), .val (.ref b1), .val (.long (own_mv (p6 &&& (2 : Int32)) q3 ((own_s q1 q2) + ((((((p6).toUInt32 >>> ((2 : Int32) &&& 31).toUInt32).toInt32) &&& (3 : Int32)) - (1 : Int32))).toInt64))), .second, .val (.long (own_mv (p6 &&& (16 : Int32)) q4 ((own_e q1 q2 (own_fl (p6 &&& (1 : Int32)))) + ((((((p6).toUInt32 >>> ((5 : Int32) &&& 31).toUInt32).toInt32) &&& (3 : Int32)) - (1 : Int32))).toInt64))), .second, .val (.ref b2), .val (.int (own_enc (own_s q1 q2) (own_e q1 q2 (own_fl (p6 &&& (1 : Int32)))) (own_s (own_mv (p6 &&& (2 : Int32)) q3 ((own_s q1 q2) + ((((((p6).toUInt32 >>> ((2 : Int32) &&& 31).toUInt32).toInt32) &&& (3 : Int32)) - (1 : Int32))).toInt64)) (own_mv (p6 &&& (16 : Int32)) q4 ((own_e q1 q2 (own_fl (p6 &&& (1 : Int32)))) + ((((((p6).toUInt32 >>> ((5 : Int32) &&& 31).toUInt32).toInt32) &&& (3 : Int32)) - (1 : Int32))).toInt64))) (own_e (own_mv (p6 &&& (2 : Int32)) q3 ((own_s q1 q2) + ((((((p6).toUInt32 >>> ((2 : Int32) &&& 31).toUInt32).toInt32) &&& (3 : Int32)) - (1 : Int32))).toInt64)) (own_mv (p6 &&& (16 : Int32)) q4 ((own_e q1 q2 (own_fl (p6 &&& (1 : Int32)))) + ((((((p6).toUInt32 >>> ((5 : Int32) &&& 31).toUInt32).toInt32) &&& (3 : Int32)) - (1 : Int32))).toInt64)) (own_fl (p6 &&& (128 : Int32)))))), .val (.int (own_exp (own_in (own_s q1 q2) (own_e q1 q2 (own_fl (p6 &&& (1 : Int32)))) (own_s (own_mv (p6 &&& (2 : Int32)) q3 ((own_s q1 q2) + ((((((p6).toUInt32 >>> ((2 : Int32) &&& 31).toUInt32).toInt32) &&& (3 : Int32)) - (1 : Int32))).toInt64)) (own_mv (p6 &&& (16 : Int32)) q4 ((own_e q1 q2 (own_fl (p6 &&& (1 : Int32)))) + ((((((p6).toUInt32 >>> ((5 : Int32) &&& 31).toUInt32).toInt32) &&& (3 : Int32)) - (1 : Int32))).toInt64)))) (own_in (own_s q1 q2) (own_e q1 q2 (own_fl (p6 &&& (1 : Int32)))) (own_e (own_mv (p6 &&& (2 : Int32)) q3 ((own_s q1 q2) + ((((((p6).toUInt32 >>> ((2 : Int32) &&& 31).toUInt32).toInt32) &&& (3 : Int32)) - (1 : Int32))).toInt64)) (own_mv (p6 &&& (16 : Int32)) q4 ((own_e q1 q2 (own_fl (p6 &&& (1 : Int32)))) + ((((((p6).toUInt32 >>> ((5 : Int32) &&& 31).toUInt32).toInt32) &&& (3 : Int32)) - (1 : Int32))).toInt64)) (own_fl (p6 &&& (128 : Int32))))))), .val (.int (own_wit (own_enc (own_s q1 q2) (own_e q1 q2 (own_fl (p6 &&& (1 : Int32)))) (own_s (own_mv (p6 &&& (2 : Int32)) q3 ((own_s q1 q2) + ((((((p6).toUInt32 >>> ((2 : Int32) &&& 31).toUInt32).toInt32) &&& (3 : Int32)) - (1 : Int32))).toInt64)) (own_mv (p6 &&& (16 : Int32)) q4 ((own_e q1 q2 (own_fl (p6 &&& (1 : Int32)))) + ((((((p6).toUInt32 >>> ((5 : Int32) &&& 31).toUInt32).toInt32) &&& (3 : Int32)) - (1 : Int32))).toInt64))) (own_e (own_mv (p6 &&& (2 : Int32)) q3 ((own_s q1 q2) + ((((((p6).toUInt32 >>> ((2 : Int32) &&& 31).toUInt32).toInt32) &&& (3 : Int32)) - (1 : Int32))).toInt64)) (own_mv (p6 &&& (16 : Int32)) q4 ((own_e q1 q2 (own_fl (p6 &&& (1 : Int32)))) + ((((((p6).toUInt32 >>> ((5 : Int32) &&& 31).toUInt32).toInt32) &&& (3 : Int32)) - (1 : Int32))).toInt64)) (own_fl (p6 &&& (128 : Int32))))) (own_in (own_s (own_mv (p6 &&& (2 : Int32)) q3 ((own_s q1 q2) + ((((((p6).toUInt32 >>> ((2 : Int32) &&& 31).toUInt32).toInt32) &&& (3 : Int32)) - (1 : Int32))).toInt64)) (own_mv (p6 &&& (16 : Int32)) q4 ((own_e q1 q2 (own_fl (p6 &&& (1 : Int32)))) + ((((((p6).toUInt32 >>> ((5 : Int32) &&& 31).toUInt32).toInt32) &&& (3 : Int32)) - (1 : Int32))).toInt64))) (own_e (own_mv (p6 &&& (2 : Int32)) q3 ((own_s q1 q2) + ((((((p6).toUInt32 >>> ((2 : Int32) &&& 31).toUInt32).toInt32) &&& (3 : Int32)) - (1 : Int32))).toInt64)) (own_mv (p6 &&& (16 : Int32)) q4 ((own_e q1 q2 (own_fl (p6 &&& (1 : Int32)))) + ((((((p6).toUInt32 >>> ((5 : Int32) &&& 31).toUInt32).toInt32) &&& (3 : Int32)) - (1 : Int32))).toInt64)) (own_fl (p6 &&& (128 : Int32)))) q5) (own_in (own_s q1 q2) (own_e q1 q2 (own_fl (p6 &&& (1 : Int32)))) q5)))] [])) t → Steps p.tables e below (s₁.setTop (mkF m 0 #[.val (.long q1), .second, .val (.long q2), .second, .val (.long q3), .second, .val (.long q4), .second, .val (.long q5), .second, .val (.int p6), .unset, .unset, .unset, .unset, .unset, .unset, .unset, .unset, .unset] [])) t := by
    intro t k
    refine R182 t ?_
    refine XS.icmpNo X165.here hx rfl (hb hby at_177) rfl (teq (own_law1 (own_s q1 q2) (own_e q1 q2 (own_fl (p6 &&& (1 : Int32)))) (own_s (own_mv (p6 &&& (2 : Int32)) q3 ((own_s q1 q2) + ((((((p6).toUInt32 >>> ((2 : Int32) &&& 31).toUInt32).toInt32) &&& (3 : Int32)) - (1 : Int32))).toInt64)) (own_mv (p6 &&& (16 : Int32)) q4 ((own_e q1 q2 (own_fl (p6 &&& (1 : Int32)))) + ((((((p6).toUInt32 >>> ((5 : Int32) &&& 31).toUInt32).toInt32) &&& (3 : Int32)) - (1 : Int32))).toInt64))) (own_e (own_mv (p6 &&& (2 : Int32)) q3 ((own_s q1 q2) + ((((((p6).toUInt32 >>> ((2 : Int32) &&& 31).toUInt32).toInt32) &&& (3 : Int32)) - (1 : Int32))).toInt64)) (own_mv (p6 &&& (16 : Int32)) q4 ((own_e q1 q2 (own_fl (p6 &&& (1 : Int32)))) + ((((((p6).toUInt32 >>> ((5 : Int32) &&& 31).toUInt32).toInt32) &&& (3 : Int32)) - (1 : Int32))).toInt64)) (own_fl (p6 &&& (128 : Int32)))) (own_se _ _ _))).2 ?_
    exact k
  have R184 : ∀ t, Steps p.tables e below (T165.setTop (mkF m 182 #[.val (.long q1), .second, .val (.long q2), .second, .val (.long q3), .second, .val (.long q4), .second, .val (.long q5), .second, .val (.int p6), .val (.ref b1), .val (.long (own_mv (p6 &&& (2 : Int32)) q3 ((own_s q1 q2) + ((((((p6).toUInt32 >>> ((2 : Int32) &&& 31).toUInt32).toInt32) &&& (3 : Int32)) - (1 : Int32))).toInt64))), .second, .val (.long (own_mv (p6 &&& (16 : Int32)) q4 ((own_e q1 q2 (own_fl (p6 &&& (1 : Int32)))) + ((((((p6).toUInt32 >>> ((5 : Int32) &&& 31).toUInt32).toInt32) &&& (3 : Int32)) - (1 : Int32))).toInt64))), .second, .val (.ref b2), .val (.int (own_enc (own_s q1 q2) (own_e q1 q2 (own_fl (p6 &&& (1 : Int32)))) (own_s (own_mv (p6 &&& (2 : Int32)) q3 ((own_s q1 q2) + ((((((p6).toUInt32 >>> ((2 : Int32) &&& 31).toUInt32).toInt32) &&& (3 : Int32)) - (1 : Int32))).toInt64)) (own_mv (p6 &&& (16 : Int32)) q4 ((own_e q1 q2 (own_fl (p6 &&& (1 : Int32)))) + ((((((p6).toUInt32 >>> ((5 : Int32) &&& 31).toUInt32).toInt32) &&& (3 : Int32)) - (1 : Int32))).toInt64))) (own_e (own_mv (p6 &&& (2 : Int32)) q3 ((own_s q1 q2) + ((((((p6).toUInt32 >>> ((2 : Int32) &&& 31).toUInt32).toInt32) &&& (3 : Int32)) - (1 : Int32))).toInt64)) (own_mv (p6 &&& (16 : Int32)) q4 ((own_e q1 q2 (own_fl (p6 &&& (1 : Int32)))) + ((((((p6).toUInt32 >>> ((5 : Int32) &&& 31).toUInt32).toInt32) &&& (3 : Int32)) - (1 : Int32))).toInt64)) (own_fl (p6 &&& (128 : Int32)))))), .val (.int (own_exp (own_in (own_s q1 q2) (own_e q1 q2 (own_fl (p6 &&& (1 : Int32)))) (own_s (own_mv (p6 &&& (2 : Int32)) q3 ((own_s q1 q2) + ((((((p6).toUInt32 >>> ((2 : Int32) &&& 31).toUInt32).toInt32) &&& (3 : Int32)) - (1 : Int32))).toInt64)) (own_mv (p6 &&& (16 : Int32)) q4 ((own_e q1 q2 (own_fl (p6 &&& (1 : Int32)))) + ((((((p6).toUInt32 >>> ((5 : Int32) &&& 31).toUInt32).toInt32) &&& (3 : Int32)) - (1 : Int32))).toInt64)))) (own_in (own_s q1 q2) (own_e q1 q2 (own_fl (p6 &&& (1 : Int32)))) (own_e (own_mv (p6 &&& (2 : Int32)) q3 ((own_s q1 q2) + ((((((p6).toUInt32 >>> ((2 : Int32) &&& 31).toUInt32).toInt32) &&& (3 : Int32)) - (1 : Int32))).toInt64)) (own_mv (p6 &&& (16 : Int32)) q4 ((own_e q1 q2 (own_fl (p6 &&& (1 : Int32)))) + ((((((p6).toUInt32 >>> ((5 : Int32) &&& 31).toUInt32).toInt32) &&& (3 : Int32)) - (1 : Int32))).toInt64)) (own_fl (p6 &&& (128 : Int32))))))), .val (.int (own_wit (own_enc (own_s q1 q2) (own_e q1 q2 (own_fl (p6 &&& (1 : Int32)))) (own_s (own_mv (p6 &&& (2 : Int32)) q3 ((own_s q1 q2) + ((((((p6).toUInt32 >>> ((2 : Int32) &&& 31).toUInt32).toInt32) &&& (3 : Int32)) - (1 : Int32))).toInt64)) (own_mv (p6 &&& (16 : Int32)) q4 ((own_e q1 q2 (own_fl (p6 &&& (1 : Int32)))) + ((((((p6).toUInt32 >>> ((5 : Int32) &&& 31).toUInt32).toInt32) &&& (3 : Int32)) - (1 : Int32))).toInt64))) (own_e (own_mv (p6 &&& (2 : Int32)) q3 ((own_s q1 q2) + ((((((p6).toUInt32 >>> ((2 : Int32) &&& 31).toUInt32).toInt32) &&& (3 : Int32)) - (1 : Int32))).toInt64)) (own_mv (p6 &&& (16 : Int32)) q4 ((own_e q1 q2 (own_fl (p6 &&& (1 : Int32)))) + ((((((p6).toUInt32 >>> ((5 : Int32) &&& 31).toUInt32).toInt32) &&& (3 : Int32)) - (1 : Int32))).toInt64)) (own_fl (p6 &&& (128 : Int32))))) (own_in (own_s (own_mv (p6 &&& (2 : Int32)) q3 ((own_s q1 q2) + ((((((p6).toUInt32 >>> ((2 : Int32) &&& 31).toUInt32).toInt32) &&& (3 : Int32)) - (1 : Int32))).toInt64)) (own_mv (p6 &&& (16 : Int32)) q4 ((own_e q1 q2 (own_fl (p6 &&& (1 : Int32)))) + ((((((p6).toUInt32 >>> ((5 : Int32) &&& 31).toUInt32).toInt32) &&& (3 : Int32)) - (1 : Int32))).toInt64))) (own_e (own_mv (p6 &&& (2 : Int32)) q3 ((own_s q1 q2) + ((((((p6).toUInt32 >>> ((2 : Int32) &&& 31).toUInt32).toInt32) &&& (3 : Int32)) - (1 : Int32))).toInt64)) (own_mv (p6 &&& (16 : Int32)) q4 ((own_e q1 q2 (own_fl (p6 &&& (1 : Int32)))) + ((((((p6).toUInt32 >>> ((5 : Int32) &&& 31).toUInt32).toInt32) &&& (3 : Int32)) - (1 : Int32))).toInt64)) (own_fl (p6 &&& (128 : Int32)))) q5) (own_in (own_s q1 q2) (own_e q1 q2 (own_fl (p6 &&& (1 : Int32)))) q5)))] [(.int (own_wit (own_enc (own_s q1 q2) (own_e q1 q2 (own_fl (p6 &&& (1 : Int32)))) (own_s (own_mv (p6 &&& (2 : Int32)) q3 ((own_s q1 q2) + ((((((p6).toUInt32 >>> ((2 : Int32) &&& 31).toUInt32).toInt32) &&& (3 : Int32)) - (1 : Int32))).toInt64)) (own_mv (p6 &&& (16 : Int32)) q4 ((own_e q1 q2 (own_fl (p6 &&& (1 : Int32)))) + ((((((p6).toUInt32 >>> ((5 : Int32) &&& 31).toUInt32).toInt32) &&& (3 : Int32)) - (1 : Int32))).toInt64))) (own_e (own_mv (p6 &&& (2 : Int32)) q3 ((own_s q1 q2) + ((((((p6).toUInt32 >>> ((2 : Int32) &&& 31).toUInt32).toInt32) &&& (3 : Int32)) - (1 : Int32))).toInt64)) (own_mv (p6 &&& (16 : Int32)) q4 ((own_e q1 q2 (own_fl (p6 &&& (1 : Int32)))) + ((((((p6).toUInt32 >>> ((5 : Int32) &&& 31).toUInt32).toInt32) &&& (3 : Int32)) - (1 : Int32))).toInt64)) (own_fl (p6 &&& (128 : Int32))))) (own_in (own_s (own_mv (p6 &&& (2 : Int32)) q3 ((own_s q1 q2) + ((((((p6).toUInt32 >>> ((2 : Int32) &&& 31).toUInt32).toInt32) &&& (3 : Int32)) - (1 : Int32))).toInt64)) (own_mv (p6 &&& (16 : Int32)) q4 ((own_e q1 q2 (own_fl (p6 &&& (1 : Int32)))) + ((((((p6).toUInt32 >>> ((5 : Int32) &&& 31).toUInt32).toInt32) &&& (3 : Int32)) - (1 : Int32))).toInt64))) (own_e (own_mv (p6 &&& (2 : Int32)) q3 ((own_s q1 q2) + ((((((p6).toUInt32 >>> ((2 : Int32) &&& 31).toUInt32).toInt32) &&& (3 : Int32)) - (1 : Int32))).toInt64)) (own_mv (p6 &&& (16 : Int32)) q4 ((own_e q1 q2 (own_fl (p6 &&& (1 : Int32)))) + ((((((p6).toUInt32 >>> ((5 : Int32) &&& 31).toUInt32).toInt32) &&& (3 : Int32)) - (1 : Int32))).toInt64)) (own_fl (p6 &&& (128 : Int32)))) q5) (own_in (own_s q1 q2) (own_e q1 q2 (own_fl (p6 &&& (1 : Int32)))) q5)))])) t → Steps p.tables e below (s₁.setTop (mkF m 0 #[.val (.long q1), .second, .val (.long q2), .second, .val (.long q3), .second, .val (.long q4), .second, .val (.long q5), .second, .val (.int p6), .unset, .unset, .unset, .unset, .unset, .unset, .unset, .unset, .unset] [])) t := by
    intro t k
    refine R183 t ?_
    refine XS.iload X165.here hx rfl (hb hby at_180) rfl ?_
    exact k
  have R185 : ∀ t, Steps p.tables e below (T165.setTop (mkF m 185 #[.val (.long q1), .second, .val (.long q2), .second, .val (.long q3), .second, .val (.long q4), .second, .val (.long q5), .second, .val (.int p6), .val (.ref b1), .val (.long (own_mv (p6 &&& (2 : Int32)) q3 ((own_s q1 q2) + ((((((p6).toUInt32 >>> ((2 : Int32) &&& 31).toUInt32).toInt32) &&& (3 : Int32)) - (1 : Int32))).toInt64))), .second, .val (.long (own_mv (p6 &&& (16 : Int32)) q4 ((own_e q1 q2 (own_fl (p6 &&& (1 : Int32)))) + ((((((p6).toUInt32 >>> ((5 : Int32) &&& 31).toUInt32).toInt32) &&& (3 : Int32)) - (1 : Int32))).toInt64))), .second, .val (.ref b2), .val (.int (own_enc (own_s q1 q2) (own_e q1 q2 (own_fl (p6 &&& (1 : Int32)))) (own_s (own_mv (p6 &&& (2 : Int32)) q3 ((own_s q1 q2) + ((((((p6).toUInt32 >>> ((2 : Int32) &&& 31).toUInt32).toInt32) &&& (3 : Int32)) - (1 : Int32))).toInt64)) (own_mv (p6 &&& (16 : Int32)) q4 ((own_e q1 q2 (own_fl (p6 &&& (1 : Int32)))) + ((((((p6).toUInt32 >>> ((5 : Int32) &&& 31).toUInt32).toInt32) &&& (3 : Int32)) - (1 : Int32))).toInt64))) (own_e (own_mv (p6 &&& (2 : Int32)) q3 ((own_s q1 q2) + ((((((p6).toUInt32 >>> ((2 : Int32) &&& 31).toUInt32).toInt32) &&& (3 : Int32)) - (1 : Int32))).toInt64)) (own_mv (p6 &&& (16 : Int32)) q4 ((own_e q1 q2 (own_fl (p6 &&& (1 : Int32)))) + ((((((p6).toUInt32 >>> ((5 : Int32) &&& 31).toUInt32).toInt32) &&& (3 : Int32)) - (1 : Int32))).toInt64)) (own_fl (p6 &&& (128 : Int32)))))), .val (.int (own_exp (own_in (own_s q1 q2) (own_e q1 q2 (own_fl (p6 &&& (1 : Int32)))) (own_s (own_mv (p6 &&& (2 : Int32)) q3 ((own_s q1 q2) + ((((((p6).toUInt32 >>> ((2 : Int32) &&& 31).toUInt32).toInt32) &&& (3 : Int32)) - (1 : Int32))).toInt64)) (own_mv (p6 &&& (16 : Int32)) q4 ((own_e q1 q2 (own_fl (p6 &&& (1 : Int32)))) + ((((((p6).toUInt32 >>> ((5 : Int32) &&& 31).toUInt32).toInt32) &&& (3 : Int32)) - (1 : Int32))).toInt64)))) (own_in (own_s q1 q2) (own_e q1 q2 (own_fl (p6 &&& (1 : Int32)))) (own_e (own_mv (p6 &&& (2 : Int32)) q3 ((own_s q1 q2) + ((((((p6).toUInt32 >>> ((2 : Int32) &&& 31).toUInt32).toInt32) &&& (3 : Int32)) - (1 : Int32))).toInt64)) (own_mv (p6 &&& (16 : Int32)) q4 ((own_e q1 q2 (own_fl (p6 &&& (1 : Int32)))) + ((((((p6).toUInt32 >>> ((5 : Int32) &&& 31).toUInt32).toInt32) &&& (3 : Int32)) - (1 : Int32))).toInt64)) (own_fl (p6 &&& (128 : Int32))))))), .val (.int (own_wit (own_enc (own_s q1 q2) (own_e q1 q2 (own_fl (p6 &&& (1 : Int32)))) (own_s (own_mv (p6 &&& (2 : Int32)) q3 ((own_s q1 q2) + ((((((p6).toUInt32 >>> ((2 : Int32) &&& 31).toUInt32).toInt32) &&& (3 : Int32)) - (1 : Int32))).toInt64)) (own_mv (p6 &&& (16 : Int32)) q4 ((own_e q1 q2 (own_fl (p6 &&& (1 : Int32)))) + ((((((p6).toUInt32 >>> ((5 : Int32) &&& 31).toUInt32).toInt32) &&& (3 : Int32)) - (1 : Int32))).toInt64))) (own_e (own_mv (p6 &&& (2 : Int32)) q3 ((own_s q1 q2) + ((((((p6).toUInt32 >>> ((2 : Int32) &&& 31).toUInt32).toInt32) &&& (3 : Int32)) - (1 : Int32))).toInt64)) (own_mv (p6 &&& (16 : Int32)) q4 ((own_e q1 q2 (own_fl (p6 &&& (1 : Int32)))) + ((((((p6).toUInt32 >>> ((5 : Int32) &&& 31).toUInt32).toInt32) &&& (3 : Int32)) - (1 : Int32))).toInt64)) (own_fl (p6 &&& (128 : Int32))))) (own_in (own_s (own_mv (p6 &&& (2 : Int32)) q3 ((own_s q1 q2) + ((((((p6).toUInt32 >>> ((2 : Int32) &&& 31).toUInt32).toInt32) &&& (3 : Int32)) - (1 : Int32))).toInt64)) (own_mv (p6 &&& (16 : Int32)) q4 ((own_e q1 q2 (own_fl (p6 &&& (1 : Int32)))) + ((((((p6).toUInt32 >>> ((5 : Int32) &&& 31).toUInt32).toInt32) &&& (3 : Int32)) - (1 : Int32))).toInt64))) (own_e (own_mv (p6 &&& (2 : Int32)) q3 ((own_s q1 q2) + ((((((p6).toUInt32 >>> ((2 : Int32) &&& 31).toUInt32).toInt32) &&& (3 : Int32)) - (1 : Int32))).toInt64)) (own_mv (p6 &&& (16 : Int32)) q4 ((own_e q1 q2 (own_fl (p6 &&& (1 : Int32)))) + ((((((p6).toUInt32 >>> ((5 : Int32) &&& 31).toUInt32).toInt32) &&& (3 : Int32)) - (1 : Int32))).toInt64)) (own_fl (p6 &&& (128 : Int32)))) q5) (own_in (own_s q1 q2) (own_e q1 q2 (own_fl (p6 &&& (1 : Int32)))) q5)))] [])) t → Steps p.tables e below (s₁.setTop (mkF m 0 #[.val (.long q1), .second, .val (.long q2), .second, .val (.long q3), .second, .val (.long q4), .second, .val (.long q5), .second, .val (.int p6), .unset, .unset, .unset, .unset, .unset, .unset, .unset, .unset, .unset] [])) t := by
    intro t k
    refine R184 t ?_
    refine XS.ifNo X165.here hx rfl (hb hby at_182) rfl ((if0 _ _).trans (feq (own_law2 _ _ _ _ _)).1) ?_
    exact k
  have R186 : ∀ t, Steps p.tables e below (T165.setTop (mkF m 190 #[.val (.long q1), .second, .val (.long q2), .second, .val (.long q3), .second, .val (.long q4), .second, .val (.long q5), .second, .val (.int p6), .val (.ref b1), .val (.long (own_mv (p6 &&& (2 : Int32)) q3 ((own_s q1 q2) + ((((((p6).toUInt32 >>> ((2 : Int32) &&& 31).toUInt32).toInt32) &&& (3 : Int32)) - (1 : Int32))).toInt64))), .second, .val (.long (own_mv (p6 &&& (16 : Int32)) q4 ((own_e q1 q2 (own_fl (p6 &&& (1 : Int32)))) + ((((((p6).toUInt32 >>> ((5 : Int32) &&& 31).toUInt32).toInt32) &&& (3 : Int32)) - (1 : Int32))).toInt64))), .second, .val (.ref b2), .val (.int (own_enc (own_s q1 q2) (own_e q1 q2 (own_fl (p6 &&& (1 : Int32)))) (own_s (own_mv (p6 &&& (2 : Int32)) q3 ((own_s q1 q2) + ((((((p6).toUInt32 >>> ((2 : Int32) &&& 31).toUInt32).toInt32) &&& (3 : Int32)) - (1 : Int32))).toInt64)) (own_mv (p6 &&& (16 : Int32)) q4 ((own_e q1 q2 (own_fl (p6 &&& (1 : Int32)))) + ((((((p6).toUInt32 >>> ((5 : Int32) &&& 31).toUInt32).toInt32) &&& (3 : Int32)) - (1 : Int32))).toInt64))) (own_e (own_mv (p6 &&& (2 : Int32)) q3 ((own_s q1 q2) + ((((((p6).toUInt32 >>> ((2 : Int32) &&& 31).toUInt32).toInt32) &&& (3 : Int32)) - (1 : Int32))).toInt64)) (own_mv (p6 &&& (16 : Int32)) q4 ((own_e q1 q2 (own_fl (p6 &&& (1 : Int32)))) + ((((((p6).toUInt32 >>> ((5 : Int32) &&& 31).toUInt32).toInt32) &&& (3 : Int32)) - (1 : Int32))).toInt64)) (own_fl (p6 &&& (128 : Int32)))))), .val (.int (own_exp (own_in (own_s q1 q2) (own_e q1 q2 (own_fl (p6 &&& (1 : Int32)))) (own_s (own_mv (p6 &&& (2 : Int32)) q3 ((own_s q1 q2) + ((((((p6).toUInt32 >>> ((2 : Int32) &&& 31).toUInt32).toInt32) &&& (3 : Int32)) - (1 : Int32))).toInt64)) (own_mv (p6 &&& (16 : Int32)) q4 ((own_e q1 q2 (own_fl (p6 &&& (1 : Int32)))) + ((((((p6).toUInt32 >>> ((5 : Int32) &&& 31).toUInt32).toInt32) &&& (3 : Int32)) - (1 : Int32))).toInt64)))) (own_in (own_s q1 q2) (own_e q1 q2 (own_fl (p6 &&& (1 : Int32)))) (own_e (own_mv (p6 &&& (2 : Int32)) q3 ((own_s q1 q2) + ((((((p6).toUInt32 >>> ((2 : Int32) &&& 31).toUInt32).toInt32) &&& (3 : Int32)) - (1 : Int32))).toInt64)) (own_mv (p6 &&& (16 : Int32)) q4 ((own_e q1 q2 (own_fl (p6 &&& (1 : Int32)))) + ((((((p6).toUInt32 >>> ((5 : Int32) &&& 31).toUInt32).toInt32) &&& (3 : Int32)) - (1 : Int32))).toInt64)) (own_fl (p6 &&& (128 : Int32))))))), .val (.int (own_wit (own_enc (own_s q1 q2) (own_e q1 q2 (own_fl (p6 &&& (1 : Int32)))) (own_s (own_mv (p6 &&& (2 : Int32)) q3 ((own_s q1 q2) + ((((((p6).toUInt32 >>> ((2 : Int32) &&& 31).toUInt32).toInt32) &&& (3 : Int32)) - (1 : Int32))).toInt64)) (own_mv (p6 &&& (16 : Int32)) q4 ((own_e q1 q2 (own_fl (p6 &&& (1 : Int32)))) + ((((((p6).toUInt32 >>> ((5 : Int32) &&& 31).toUInt32).toInt32) &&& (3 : Int32)) - (1 : Int32))).toInt64))) (own_e (own_mv (p6 &&& (2 : Int32)) q3 ((own_s q1 q2) + ((((((p6).toUInt32 >>> ((2 : Int32) &&& 31).toUInt32).toInt32) &&& (3 : Int32)) - (1 : Int32))).toInt64)) (own_mv (p6 &&& (16 : Int32)) q4 ((own_e q1 q2 (own_fl (p6 &&& (1 : Int32)))) + ((((((p6).toUInt32 >>> ((5 : Int32) &&& 31).toUInt32).toInt32) &&& (3 : Int32)) - (1 : Int32))).toInt64)) (own_fl (p6 &&& (128 : Int32))))) (own_in (own_s (own_mv (p6 &&& (2 : Int32)) q3 ((own_s q1 q2) + ((((((p6).toUInt32 >>> ((2 : Int32) &&& 31).toUInt32).toInt32) &&& (3 : Int32)) - (1 : Int32))).toInt64)) (own_mv (p6 &&& (16 : Int32)) q4 ((own_e q1 q2 (own_fl (p6 &&& (1 : Int32)))) + ((((((p6).toUInt32 >>> ((5 : Int32) &&& 31).toUInt32).toInt32) &&& (3 : Int32)) - (1 : Int32))).toInt64))) (own_e (own_mv (p6 &&& (2 : Int32)) q3 ((own_s q1 q2) + ((((((p6).toUInt32 >>> ((2 : Int32) &&& 31).toUInt32).toInt32) &&& (3 : Int32)) - (1 : Int32))).toInt64)) (own_mv (p6 &&& (16 : Int32)) q4 ((own_e q1 q2 (own_fl (p6 &&& (1 : Int32)))) + ((((((p6).toUInt32 >>> ((5 : Int32) &&& 31).toUInt32).toInt32) &&& (3 : Int32)) - (1 : Int32))).toInt64)) (own_fl (p6 &&& (128 : Int32)))) q5) (own_in (own_s q1 q2) (own_e q1 q2 (own_fl (p6 &&& (1 : Int32)))) q5)))] [(.int (1 : Int32))])) t → Steps p.tables e below (s₁.setTop (mkF m 0 #[.val (.long q1), .second, .val (.long q2), .second, .val (.long q3), .second, .val (.long q4), .second, .val (.long q5), .second, .val (.int p6), .unset, .unset, .unset, .unset, .unset, .unset, .unset, .unset, .unset] [])) t := by
    intro t k
    refine R185 t ?_
    refine XS.iconst X165.here hx rfl (hb hby at_185) ?_
    refine XS.goto X165.here hx rfl (pc0 := 186) (pc' := 190) rfl (hb hby at_186) (by decide) (by decide) ?_
    exact k
  obtain ⟨fs, hr, hrun, hended, hW, hsame⟩ := X165.leave (v := some (.int (1 : Int32))) (fun h => by rw [Bd.returns] at h; cases h)
  refine ⟨_, _, pre0 _ (R186 _ (retN X165 hx (t := .boolean) Bd.returns (by simp) (hb hby at_190) hr)), hrun, hended, _, _, rfl, ?_, ⟨_, rfl⟩, hW, hsame.mono (by decide) (by decide)⟩
  show Q_rm0 Z q1 q2 q3 q4 q5 p6  h0 n0 _ T165.heap _
  rw [e165]
  exact ⟨rfl, N165⟩
set_option maxRecDepth 65536 in
set_option maxHeartbeats 40000000 in
theorem comes_1 {Post : Tables → Env → Array Value → State → Outcome → State → Prop} (hpost : ∀ tb e args s v u, (limb_1_1.after args s (.returned v) u = true ∧ limb_1_2.after args s (.returned v) u = true ∧ True) → FrameEnd s (.returned v) u (Jvm.fieldLocs frame_1_writes args s ++ Jvm.arrayLocs frame_1_arrays args s ++ Jvm.staticLocs frame_1_statics s) 16 128 → Post tb e args s (.returned v) u) :
    ArmFor flags0 classFile x code maxLocals ret World_1 tables_1 room_1 Calls_1 rest_1 Pre_1 Post := by
  intro l hfl _ _ p e ha hc hk s m args below hf hA hF happ hP
  obtain ⟨hcalls, hrest, hpre⟩ := hP
  obtain ⟨-, -, -, hnamed, -, -, -, hat⟩ := (Spec.applies_iff hf).mp happ
  obtain ⟨hg, hn⟩ := and_e (Cond.before_iff.mp (show (Jvm.Cond.and given_1 narrow_1).before args s = true from hpre))
  obtain ⟨g0, r0⟩ := and_e hg
  obtain ⟨g1, r1⟩ := and_e r0
  obtain ⟨g2, r2⟩ := and_e r1
  obtain ⟨g3, r3⟩ := and_e r2
  obtain ⟨g4, r4⟩ := and_e r3
  obtain ⟨g5, r5⟩ := and_e r4
  obtain ⟨w0, w1, w2, w3, w4, w5, rfl⟩ : ∃ w0 w1 w2 w3 w4 w5 : Value, args = #[w0, w1, w2, w3, w4, w5] := by
    have hs : args.size = 6 := by simpa [Cond.value, given_1] using g0
    obtain ⟨L⟩ := args
    match L, hs with
    | [w0, w1, w2, w3, w4, w5], _ => exact ⟨w0, w1, w2, w3, w4, w5, rfl⟩
  have hw := fun d (hd : d ∈ tables_1) => atoms_spec (ws := Jvm.Cond.code x code maxLocals ret :: tables_1) hat d (List.mem_cons_of_mem _ hd)
  have hfit : Fit s := fun {y c} hc i hi => by
    obtain ⟨ha, rfl⟩ := Array.getElem?_eq_some_iff.mp hc
    have q := List.all_eq_true.mp ((Array.all_eq_true_iff_forall_mem.mp hF) _ (Array.getElem_mem ha)) i (List.mem_range.mpr hi)
    simpa [Array.getElem?_eq_getElem hi] using q
  obtain ⟨i0, ei0⟩ := isL_v g1
  obtain rfl : w0 = (.long i0) := Option.some.inj ei0
  obtain ⟨i1, ei1⟩ := isL_v g2
  obtain rfl : w1 = (.long i1) := Option.some.inj ei1
  obtain ⟨i2, ei2⟩ := isL_v g3
  obtain rfl : w2 = (.long i2) := Option.some.inj ei2
  obtain ⟨i3, ei3⟩ := isL_v g4
  obtain rfl : w3 = (.long i3) := Option.some.inj ei3
  obtain ⟨i4, ei4⟩ := isL_v g5
  obtain rfl : w4 = (.long i4) := Option.some.inj ei4
  obtain ⟨i5, ei5⟩ := is_v r5
  obtain rfl : w5 = (.int i5) := Option.some.inj ei5
  obtain ⟨n, o, h1, h2, h3, _, L, rfl, ⟨rfl, N⟩, hq⟩ := rm0 l s _ hw tables_1 i0 i1 i2 i3 i4 i5  s.heap s.heap.size (Nat.le_refl _)  p e ha hc hk s m _ below hf ((Spec.applies_iff_loose hf).mp happ).1 ⟨rfl, State.Warmed39.refl s, rfl⟩ trivial
  refine ⟨n, _, h1, h2, h3, hpost _ _ _ _ _ _ ⟨Cond.after_iff.mpr rfl, Cond.after_iff.mpr (eq_i res_at (Term.int_eval (1)) rfl), trivial⟩ ⟨hq.1, hq.2.1, (hq.2.2.sift fun y hy => Or.inr (N y hy)).mono (by decide) (by decide)⟩⟩
theorem main_1_1 : Claimed_1_1 := comes_1 fun _ _ _ _ _ _ h hF => ⟨h.1, hF⟩
theorem main_1_2 : Claimed_1_2 := comes_1 fun _ _ _ _ _ _ h hF => ⟨h.2.1, hF⟩
end Jvm.Pilot.@@N@@
namespace Jvm.Pilot.@@N@@
open Jvm Jvm.ClassFile Sem Op Lib Jvm.Free Jvm.Stand Jvm.Pilot.@@N@@.Jvm.D
/-! MADE BY PROGRAM (witnessworld.py) out of the Statement's table words and the real class files: 11 classes; the members and pool entries that the words name. The judged class is class 1, her method 3. -/
namespace start1
open Jvm.ClassFile
def u (s : String) : CpInfo := .utf8 (stringToUtf16 s)
/-- a pool by its gaps: so many unusable entries, then the entry; so many at the end -/
def gap : Nat → List CpInfo → List CpInfo
  | 0, r => r
  | n + 1, r => .unusable :: gap n r
def poolList (es : List (Nat × CpInfo)) (last : Nat) : List CpInfo := es.foldr (fun e r => gap e.1 (e.2 :: r)) (gap last [])
def pool (es : List (Nat × CpInfo)) (last : Nat) : Array CpInfo := ⟨poolList es last⟩
def fileOf (pool : Array CpInfo) (this : Nat) (attrs : Array Attribute := #[]) (ms : Array MethodInfo := #[]) (fl : Nat := 33) (sup : Nat := 0) (ifs : Array Nat := #[]) (fds : Array FieldInfo := #[]) : ClassFile where
  minorVersion := 0
  majorVersion := 65
  constantPool := pool
  accessFlags := fl
  thisClass := this
  superClass := sup
  interfaces := ifs
  fields := fds
  methods := ms
  attributes := attrs
def plain (name : String) (sup : Option ClassId) : Class where
  name := name
  kind := .ordinary
  loader := none
  accessFlags := 33
  super := sup
  interfaces := #[]
  cf := none
  fields := #[]
  methods := #[]
  instanceTypes := #[]
  staticTypes := #[]
  resolved := #[]
  callSites := []
  init := .initialized
  statics := none
  mirror := none

def pool0 : Array CpInfo := pool [(5, u "<init>"), (0, u "()V"), (1, .class_ 10), (1, u "java/lang/Object")] 113

def k0c0 : Code := { maxStack := 0, maxLocals := 1, code := object_method_1_code, exceptionTable := #[], attributes := #[] }
def k0m0 : Method := { name := "<init>", desc := "()V", sig := { parameters := [], returnType := none }, accessFlags := 1, code := some k0c0 }
/-- java/lang/Object -/
def k0 : Class := { plain "java/lang/Object" none with
  accessFlags := 33
  interfaces := #[]
  cf := some (fileOf pool0 8 #[] #[{ accessFlags := 1, nameIndex := 5, descriptorIndex := 6, attributes := #[] }] 33 0 #[] #[])
  fields := #[]
  methods := #[k0m0]
  instanceTypes := #[]
  staticTypes := #[]
  resolved := Array.replicate 124 none
  statics := none }

def pool1 : Array CpInfo := pool [(2, .class_ 4), (1, u "java/lang/Object"), (0, u "<init>"), (0, u "()V"), (2, .long 9223372036854775807), (1, .methodref 12 13), (0, .class_ 14), (0, .nameAndType 15 16), (0, u "java/lang/Math"), (0, u "min"), (0, u "(JJ)J"), (0, .methodref 12 18), (0, .nameAndType 19 16), (0, u "max"), (0, .long 9223372036854775806), (1, .class_ 23), (0, u "com/example/varese/varese/Interval"), (0, .methodref 22 25), (0, .nameAndType 5 26), (0, u "(JJ)V"), (0, .methodref 22 28), (0, .nameAndType 29 30), (0, u "start"), (0, u "()J"), (0, .methodref 22 32), (0, .nameAndType 33 30), (0, u "end"), (0, .methodref 35 36), (0, .class_ 37), (0, .nameAndType 38 39), (0, u "com/example/varese/varese/IntervalEnclosesPinLaw"), (0, u "mk"), (0, u "(JJZ)Lcom/example/varese/varese/Interval;"), (0, .methodref 22 41), (0, .nameAndType 42 43), (0, u "encloses"), (0, u "(Lcom/example/varese/varese/Interval;)Z"), (0, .methodref 35 45), (0, .nameAndType 46 47), (0, u "in"), (0, u "(Lcom/example/varese/varese/Interval;J)Z"), (3, u "law"), (0, u "(JJJJJI)Z")] 2

def k1m0 : Method := { name := "<init>", desc := "()V", sig := { parameters := [], returnType := none }, accessFlags := 1, code := none }
def k1c1 : Code := { maxStack := 6, maxLocals := 13, code := method_2_code, exceptionTable := #[], attributes := #[] }
def k1m1 : Method := { name := "mk", desc := "(JJZ)Lcom/example/varese/varese/Interval;", sig := { parameters := [.long, .long, .boolean], returnType := some (.object "com/example/varese/varese/Interval") }, accessFlags := 10, code := some k1c1 }
def k1c2 : Code := { maxStack := 4, maxLocals := 3, code := method_3_code, exceptionTable := #[], attributes := #[] }
def k1m2 : Method := { name := "in", desc := "(Lcom/example/varese/varese/Interval;J)Z", sig := { parameters := [(.object "com/example/varese/varese/Interval"), .long], returnType := some .boolean }, accessFlags := 10, code := some k1c2 }
def k1c3 : Code := { maxStack := 6, maxLocals := 20, code := code, exceptionTable := #[], attributes := #[] }
def k1m3 : Method := { name := "law", desc := "(JJJJJI)Z", sig := { parameters := [.long, .long, .long, .long, .long, .int], returnType := some .boolean }, accessFlags := 9, code := some k1c3 }
/-- com/example/varese/varese/IntervalEnclosesPinLaw -/
def k1 : Class := { plain "com/example/varese/varese/IntervalEnclosesPinLaw" (some 0) with
  accessFlags := 49
  interfaces := #[]
  cf := some (fileOf pool1 35 #[] #[{ accessFlags := 1, nameIndex := 5, descriptorIndex := 6, attributes := #[] }, { accessFlags := 10, nameIndex := 38, descriptorIndex := 39, attributes := #[] }, { accessFlags := 10, nameIndex := 46, descriptorIndex := 47, attributes := #[] }, { accessFlags := 9, nameIndex := 51, descriptorIndex := 52, attributes := #[] }] 49 2 #[] #[])
  fields := #[]
  methods := #[k1m0, k1m1, k1m2, k1m3]
  instanceTypes := #[]
  staticTypes := #[]
  resolved := Array.replicate 55 none
  statics := none }

def pool2 : Array CpInfo := pool [(1, .class_ 2), (0, u "java/lang/Math"), (1, .class_ 6), (1, u "java/lang/Object"), (0, u "<init>"), (0, u "()V"), (89, .class_ 100), (1, u "java/lang/Math$RandomNumberGeneratorHolder"), (20, u "(JJ)J"), (50, u "negativeZeroFloatBits"), (0, u "J"), (2, u "negativeZeroDoubleBits"), (21, u "max"), (2, u "min"), (43, u "$assertionsDisabled"), (0, u "Z"), (91, u "twoToTheDoubleScaleDown"), (0, u "D"), (4, u "twoToTheDoubleScaleUp"), (9, u "E"), (3, u "PI"), (2, u "TAU"), (2, u "DEGREES_TO_RADIANS"), (0, u "RADIANS_TO_DEGREES")] 94

def k2m0 : Method := { name := "<init>", desc := "()V", sig := { parameters := [], returnType := none }, accessFlags := 2, code := none }
def k2c1 : Code := { maxStack := 4, maxLocals := 4, code := jdk_29_method_66_code, exceptionTable := #[], attributes := #[] }
def k2m1 : Method := { name := "max", desc := "(JJ)J", sig := { parameters := [.long, .long], returnType := some .long }, accessFlags := 9, code := some k2c1 }
def k2c2 : Code := { maxStack := 4, maxLocals := 4, code := jdk_29_method_70_code, exceptionTable := #[], attributes := #[] }
def k2m2 : Method := { name := "min", desc := "(JJ)J", sig := { parameters := [.long, .long], returnType := some .long }, accessFlags := 9, code := some k2c2 }
/-- java/lang/Math -/
def k2 : Class := { plain "java/lang/Math" (some 0) with
  accessFlags := 49
  interfaces := #[]
  cf := some (fileOf pool2 1 #[.nestMembers #[98]] #[{ accessFlags := 2, nameIndex := 7, descriptorIndex := 8, attributes := #[] }, { accessFlags := 9, nameIndex := 198, descriptorIndex := 121, attributes := #[] }, { accessFlags := 9, nameIndex := 201, descriptorIndex := 121, attributes := #[] }] 49 4 #[] #[{ accessFlags := 25, nameIndex := 354, descriptorIndex := 339, attributes := #[] }, { accessFlags := 25, nameIndex := 358, descriptorIndex := 339, attributes := #[] }, { accessFlags := 25, nameIndex := 361, descriptorIndex := 339, attributes := #[] }, { accessFlags := 26, nameIndex := 364, descriptorIndex := 339, attributes := #[] }, { accessFlags := 26, nameIndex := 365, descriptorIndex := 339, attributes := #[] }, { accessFlags := 26, nameIndex := 172, descriptorIndex := 173, attributes := #[] }, { accessFlags := 26, nameIndex := 176, descriptorIndex := 173, attributes := #[] }, { accessFlags := 8, nameIndex := 344, descriptorIndex := 339, attributes := #[] }, { accessFlags := 8, nameIndex := 338, descriptorIndex := 339, attributes := #[] }, { accessFlags := 4120, nameIndex := 245, descriptorIndex := 246, attributes := #[] }])
  fields := #[{ name := "E", type := .double, accessFlags := 25, slot := 0, constantValue := 0 }, { name := "PI", type := .double, accessFlags := 25, slot := 1, constantValue := 0 }, { name := "TAU", type := .double, accessFlags := 25, slot := 2, constantValue := 0 }, { name := "DEGREES_TO_RADIANS", type := .double, accessFlags := 26, slot := 3, constantValue := 0 }, { name := "RADIANS_TO_DEGREES", type := .double, accessFlags := 26, slot := 4, constantValue := 0 }, { name := "negativeZeroFloatBits", type := .long, accessFlags := 26, slot := 5, constantValue := 0 }, { name := "negativeZeroDoubleBits", type := .long, accessFlags := 26, slot := 6, constantValue := 0 }, { name := "twoToTheDoubleScaleUp", type := .double, accessFlags := 8, slot := 7, constantValue := 0 }, { name := "twoToTheDoubleScaleDown", type := .double, accessFlags := 8, slot := 8, constantValue := 0 }, { name := "$assertionsDisabled", type := .boolean, accessFlags := 4120, slot := 9, constantValue := 0 }]
  methods := #[k2m0, k2m1, k2m2]
  instanceTypes := #[]
  staticTypes := #[.double, .double, .double, .double, .double, .long, .long, .double, .double, .boolean]
  resolved := Array.replicate 460 none
  statics := none }

def pool3 : Array CpInfo := pool [(1, .methodref 2 3), (0, .class_ 4), (0, .nameAndType 5 6), (0, u "java/lang/Object"), (0, u "<init>"), (0, u "()V"), (0, .class_ 8), (0, u "java/lang/Record")] 13

def k3c0 : Code := { maxStack := 1, maxLocals := 1, code := jdk_30_method_1_code, exceptionTable := #[], attributes := #[] }
def k3m0 : Method := { name := "<init>", desc := "()V", sig := { parameters := [], returnType := none }, accessFlags := 4, code := some k3c0 }
/-- java/lang/Record -/
def k3 : Class := { plain "java/lang/Record" (some 0) with
  accessFlags := 1057
  interfaces := #[]
  cf := some (fileOf pool3 7 #[] #[{ accessFlags := 4, nameIndex := 5, descriptorIndex := 6, attributes := #[] }] 1057 2 #[] #[])
  fields := #[]
  methods := #[k3m0]
  instanceTypes := #[]
  staticTypes := #[]
  resolved := Array.replicate 22 none
  statics := none }

def pool4 : Array CpInfo := pool [(3, .methodref 4 5), (0, .class_ 6), (0, .nameAndType 7 8), (0, u "java/lang/Record"), (0, u "<init>"), (0, u "()V"), (0, .class_ 10), (0, u "com/example/varese/varese/Interval"), (0, .long 9223372036854775807), (13, .fieldref 9 26), (0, .nameAndType 27 28), (0, u "start"), (0, u "J"), (0, .fieldref 9 30), (0, .nameAndType 31 28), (0, u "end"), (11, u "(JJ)V"), (52, u "()J"), (16, u "INFINITY"), (7, u "encloses"), (0, u "(Lcom/example/varese/varese/Interval;)Z")] 45

def k4c0 : Code := { maxStack := 6, maxLocals := 5, code := prog_46_method_1_code, exceptionTable := #[], attributes := #[] }
def k4m0 : Method := { name := "<init>", desc := "(JJ)V", sig := { parameters := [.long, .long], returnType := none }, accessFlags := 1, code := some k4c0 }
def k4c1 : Code := { maxStack := 4, maxLocals := 2, code := prog_46_method_4_code, exceptionTable := #[], attributes := #[] }
def k4m1 : Method := { name := "encloses", desc := "(Lcom/example/varese/varese/Interval;)Z", sig := { parameters := [(.object "com/example/varese/varese/Interval")], returnType := some .boolean }, accessFlags := 0, code := some k4c1 }
def k4c2 : Code := { maxStack := 2, maxLocals := 1, code := prog_46_method_12_code, exceptionTable := #[], attributes := #[] }
def k4m2 : Method := { name := "start", desc := "()J", sig := { parameters := [], returnType := some .long }, accessFlags := 1, code := some k4c2 }
def k4c3 : Code := { maxStack := 2, maxLocals := 1, code := prog_46_method_13_code, exceptionTable := #[], attributes := #[] }
def k4m3 : Method := { name := "end", desc := "()J", sig := { parameters := [], returnType := some .long }, accessFlags := 1, code := some k4c3 }
/-- com/example/varese/varese/Interval -/
def k4 : Class := { plain "com/example/varese/varese/Interval" (some 3) with
  accessFlags := 49
  interfaces := #[]
  cf := some (fileOf pool4 9 #[] #[{ accessFlags := 1, nameIndex := 7, descriptorIndex := 43, attributes := #[] }, { accessFlags := 0, nameIndex := 121, descriptorIndex := 122, attributes := #[] }, { accessFlags := 1, nameIndex := 27, descriptorIndex := 96, attributes := #[] }, { accessFlags := 1, nameIndex := 31, descriptorIndex := 96, attributes := #[] }] 49 4 #[] #[{ accessFlags := 18, nameIndex := 27, descriptorIndex := 28, attributes := #[] }, { accessFlags := 18, nameIndex := 31, descriptorIndex := 28, attributes := #[] }, { accessFlags := 25, nameIndex := 113, descriptorIndex := 28, attributes := #[] }])
  fields := #[{ name := "start", type := .long, accessFlags := 18, slot := 0, constantValue := 0 }, { name := "end", type := .long, accessFlags := 18, slot := 1, constantValue := 0 }, { name := "INFINITY", type := .long, accessFlags := 25, slot := 0, constantValue := 0 }]
  methods := #[k4m0, k4m1, k4m2, k4m3]
  instanceTypes := #[.long, .long]
  staticTypes := #[.long]
  resolved := Array.replicate 168 none
  statics := none }

def pool5 : Array CpInfo := pool [(1, u "java/lang/Cloneable"), (0, .class_ 1), (0, u "java/lang/Object"), (0, .class_ 3)] 3

/-- java/lang/Cloneable -/
def k5 : Class := { plain "java/lang/Cloneable" (some 0) with
  accessFlags := 1537
  interfaces := #[]
  cf := some (fileOf pool5 2 #[] #[] 1537 4 #[] #[])
  fields := #[]
  methods := #[]
  instanceTypes := #[]
  staticTypes := #[]
  resolved := Array.replicate 8 none
  statics := none }

def pool6 : Array CpInfo := pool [(1, u "java/io/Serializable"), (0, .class_ 1), (0, u "java/lang/Object"), (0, .class_ 3)] 3

/-- java/io/Serializable -/
def k6 : Class := { plain "java/io/Serializable" (some 0) with
  accessFlags := 1537
  interfaces := #[]
  cf := some (fileOf pool6 2 #[] #[] 1537 4 #[] #[])
  fields := #[]
  methods := #[]
  instanceTypes := #[]
  staticTypes := #[]
  resolved := Array.replicate 8 none
  statics := none }

/-- the primitive byte -/
def k7 : Class := { plain "byte" none with kind := .primitive 'B', accessFlags := 0x411 }
/-- [B -/
def k8 : Class := { plain "[B" (some 0) with kind := .array 7 .byte, interfaces := #[5, 6], accessFlags := 1041 }

/-- the primitive int -/
def k9 : Class := { plain "int" none with kind := .primitive 'I', accessFlags := 0x411 }
/-- [I -/
def k10 : Class := { plain "[I" (some 0) with kind := .array 9 .int, interfaces := #[5, 6], accessFlags := 1041 }

def heap : Heap := #[]
def classes : Array Class := #[k0, k1, k2, k3, k4, k5, k6, k7, k8, k9, k10]
def interned : List (Array UInt16 × Addr) := []
def slotsUsed : Nat := 0
def theMethod : MethodId := ⟨1, 3⟩
def args0 : Array Value := #[.long 5, .long 6, .long 7, .long 8, .long 9, .int 3]
def aboutOver (below : List Frame) : State where
  vm := { classes := classes, interned := interned.toArray }
  heap := heap
  slotsUsed := slotsUsed
  threads := #[{ frames := .invoking theMethod args0 :: below }]
def below0 : List Frame := [.native { method := ⟨0, 0⟩, args := #[] }]
def about1 : State := aboutOver below0
def p0 : Program := .bare "" "" ""
def e0 : Env := launch0.env 0 0 0
theorem w_frames : about1.frames = Frame.invoking theMethod args0 :: below0 := rfl
set_option maxRecDepth 65536 in
theorem w_args : argsFit about1.vm theMethod args0 = true := by decide +kernel
set_option maxRecDepth 65536 in
theorem w_heap : heapFits about1 = true := by decide +kernel
set_option maxRecDepth 65536 in
theorem w_runnable : about1.curStatus? = some .runnable := by decide +kernel
set_option maxRecDepth 65536 in
theorem w_alone : about1.alone = true := by decide +kernel
set_option maxRecDepth 65536 in
theorem w_named : about1.methodNamed? x = some theMethod := by decide +kernel
set_option maxRecDepth 65536 in
theorem w_hears : about1.hears theMethod below0 = true := by decide +kernel
set_option maxRecDepth 65536 in
theorem w_ripe : about1.ripe theMethod args0 below0 = true := by decide +kernel
theorem w_running : about1.status = .running := rfl
set_option maxRecDepth 65536 in
theorem w_room : about1.hasRoom e0.platform room_1 = true :=
  launch0.hasRoom_least _ room_1 (by decide +kernel) (by decide +kernel) (by decide +kernel) (by decide +kernel) (by decide +kernel) (by decide +kernel)
theorem allAtoms_all (ts : List Jvm.Cond) (a : Array Jvm.Value) (st : Jvm.State) : (allAtoms ts).before a st = ts.all (fun c => c.before a st) := by
  induction ts with
  | nil => rfl
  | cons c t ih =>
    show (Jvm.Cond.and c (allAtoms t)).before a st = _
    rw [Jvm.Cond.before_and, ih, List.all_cons]
def words1 : List Jvm.Cond := Jvm.Cond.code x code maxLocals ret :: tables_1
/-- a 'code' word, met by the world's own term for the bytes: nothing is compared byte by byte -/
theorem code_word {y : MethodName} {bytes : ByteArray} {mx : Nat} {rt : Option FieldType} {a : Array Value} {s : State} {m : MethodId} {meth : Method} {c : Code} (h1 : s.methodNamed? y = some m) (h2 : s.vm.method? m = some meth) (h3 : meth.code = some c) (h4 : c.code = bytes)
    (h5 : (c.maxLocals == mx && c.exceptionTable.isEmpty && decide (c.maxStack ≤ mostOperands) && decide (meth.sig.returnType = rt) && !meth.locks && decide (parseMethodDescriptor y.desc = some meth.sig)) = true) : (Jvm.Cond.code y bytes mx rt).before a s = true := by
  simp only [Bool.and_eq_true, beq_iff_eq, Bool.not_eq_true', decide_eq_true_eq] at h5
  obtain ⟨⟨⟨⟨⟨g1, g2⟩, g3⟩, g4⟩, g5⟩, g6⟩ := h5
  simp [Cond.before, Cond.holds, Cond.value, h1, h2, h3, h4, g1, g2, g3, g4, g5, g6]
def isCode : Jvm.Cond → Bool
  | .code _ _ _ _ => true
  | _ => false
theorem all_split {L : List Jvm.Cond} {P : Jvm.Cond → Bool} (h1 : L.all (fun c => isCode c || P c) = true) (h2 : ∀ c ∈ L.filter isCode, P c = true) : L.all P = true := by
  refine List.all_eq_true.mpr fun c hc => ?_
  have h := List.all_eq_true.mp h1 c hc
  rcases Bool.eq_false_or_eq_true (isCode c) with hi | hi
  · exact h2 c (List.mem_filter.mpr ⟨hc, hi⟩)
  · simpa [hi] using h
set_option maxRecDepth 65536 in
theorem w_c0 : (Jvm.Cond.code x code maxLocals ret).before args0 about1 = true := code_word (m := ⟨1, 3⟩) (meth := k1m3) (c := k1c3) (by decide +kernel) rfl rfl rfl (by decide +kernel)
set_option maxRecDepth 65536 in
theorem w_c1 : (Jvm.Cond.code ({ cls := "com/example/varese/varese/IntervalEnclosesPinLaw", name := "mk", desc := "(JJZ)Lcom/example/varese/varese/Interval;" } : Jvm.MethodName) method_2_code (13 : Nat) (Option.some (Jvm.ClassFile.FieldType.object "com/example/varese/varese/Interval"))).before args0 about1 = true := code_word (m := ⟨1, 1⟩) (meth := k1m1) (c := k1c1) (by decide +kernel) rfl rfl rfl (by decide +kernel)
set_option maxRecDepth 65536 in
theorem w_c2 : (Jvm.Cond.code ({ cls := "java/lang/Math", name := "min", desc := "(JJ)J" } : Jvm.MethodName) jdk_29_method_70_code (4 : Nat) (Option.some Jvm.ClassFile.FieldType.long)).before args0 about1 = true := code_word (m := ⟨2, 2⟩) (meth := k2m2) (c := k2c2) (by decide +kernel) rfl rfl rfl (by decide +kernel)
set_option maxRecDepth 65536 in
theorem w_c3 : (Jvm.Cond.code ({ cls := "java/lang/Math", name := "max", desc := "(JJ)J" } : Jvm.MethodName) jdk_29_method_66_code (4 : Nat) (Option.some Jvm.ClassFile.FieldType.long)).before args0 about1 = true := code_word (m := ⟨2, 1⟩) (meth := k2m1) (c := k2c1) (by decide +kernel) rfl rfl rfl (by decide +kernel)
set_option maxRecDepth 65536 in
theorem w_c4 : (Jvm.Cond.code ({ cls := "com/example/varese/varese/Interval", name := "<init>", desc := "(JJ)V" } : Jvm.MethodName) prog_46_method_1_code (5 : Nat) (Option.none : Option Jvm.ClassFile.FieldType)).before args0 about1 = true := code_word (m := ⟨4, 0⟩) (meth := k4m0) (c := k4c0) (by decide +kernel) rfl rfl rfl (by decide +kernel)
set_option maxRecDepth 65536 in
theorem w_c5 : (Jvm.Cond.code ({ cls := "java/lang/Record", name := "<init>", desc := "()V" } : Jvm.MethodName) jdk_30_method_1_code (1 : Nat) (Option.none : Option Jvm.ClassFile.FieldType)).before args0 about1 = true := code_word (m := ⟨3, 0⟩) (meth := k3m0) (c := k3c0) (by decide +kernel) rfl rfl rfl (by decide +kernel)
set_option maxRecDepth 65536 in
theorem w_c6 : (Jvm.Cond.code ({ cls := "java/lang/Object", name := "<init>", desc := "()V" } : Jvm.MethodName) object_method_1_code (1 : Nat) (Option.none : Option Jvm.ClassFile.FieldType)).before args0 about1 = true := code_word (m := ⟨0, 0⟩) (meth := k0m0) (c := k0c0) (by decide +kernel) rfl rfl rfl (by decide +kernel)
set_option maxRecDepth 65536 in
theorem w_c7 : (Jvm.Cond.code ({ cls := "com/example/varese/varese/Interval", name := "start", desc := "()J" } : Jvm.MethodName) prog_46_method_12_code (1 : Nat) (Option.some Jvm.ClassFile.FieldType.long)).before args0 about1 = true := code_word (m := ⟨4, 2⟩) (meth := k4m2) (c := k4c2) (by decide +kernel) rfl rfl rfl (by decide +kernel)
set_option maxRecDepth 65536 in
theorem w_c8 : (Jvm.Cond.code ({ cls := "com/example/varese/varese/Interval", name := "encloses", desc := "(Lcom/example/varese/varese/Interval;)Z" } : Jvm.MethodName) prog_46_method_4_code (2 : Nat) (Option.some Jvm.ClassFile.FieldType.boolean)).before args0 about1 = true := code_word (m := ⟨4, 1⟩) (meth := k4m1) (c := k4c1) (by decide +kernel) rfl rfl rfl (by decide +kernel)
set_option maxRecDepth 65536 in
theorem w_c9 : (Jvm.Cond.code ({ cls := "com/example/varese/varese/IntervalEnclosesPinLaw", name := "in", desc := "(Lcom/example/varese/varese/Interval;J)Z" } : Jvm.MethodName) method_3_code (3 : Nat) (Option.some Jvm.ClassFile.FieldType.boolean)).before args0 about1 = true := code_word (m := ⟨1, 2⟩) (meth := k1m2) (c := k1c2) (by decide +kernel) rfl rfl rfl (by decide +kernel)
set_option maxRecDepth 65536 in
theorem w_c10 : (Jvm.Cond.code ({ cls := "com/example/varese/varese/Interval", name := "end", desc := "()J" } : Jvm.MethodName) prog_46_method_13_code (1 : Nat) (Option.some Jvm.ClassFile.FieldType.long)).before args0 about1 = true := code_word (m := ⟨4, 3⟩) (meth := k4m3) (c := k4c3) (by decide +kernel) rfl rfl rfl (by decide +kernel)
def codes1 : List Jvm.Cond := [Jvm.Cond.code x code maxLocals ret, Jvm.Cond.code ({ cls := "com/example/varese/varese/IntervalEnclosesPinLaw", name := "mk", desc := "(JJZ)Lcom/example/varese/varese/Interval;" } : Jvm.MethodName) method_2_code (13 : Nat) (Option.some (Jvm.ClassFile.FieldType.object "com/example/varese/varese/Interval")), Jvm.Cond.code ({ cls := "java/lang/Math", name := "min", desc := "(JJ)J" } : Jvm.MethodName) jdk_29_method_70_code (4 : Nat) (Option.some Jvm.ClassFile.FieldType.long), Jvm.Cond.code ({ cls := "java/lang/Math", name := "max", desc := "(JJ)J" } : Jvm.MethodName) jdk_29_method_66_code (4 : Nat) (Option.some Jvm.ClassFile.FieldType.long), Jvm.Cond.code ({ cls := "com/example/varese/varese/Interval", name := "<init>", desc := "(JJ)V" } : Jvm.MethodName) prog_46_method_1_code (5 : Nat) (Option.none : Option Jvm.ClassFile.FieldType), Jvm.Cond.code ({ cls := "java/lang/Record", name := "<init>", desc := "()V" } : Jvm.MethodName) jdk_30_method_1_code (1 : Nat) (Option.none : Option Jvm.ClassFile.FieldType), Jvm.Cond.code ({ cls := "java/lang/Object", name := "<init>", desc := "()V" } : Jvm.MethodName) object_method_1_code (1 : Nat) (Option.none : Option Jvm.ClassFile.FieldType), Jvm.Cond.code ({ cls := "com/example/varese/varese/Interval", name := "start", desc := "()J" } : Jvm.MethodName) prog_46_method_12_code (1 : Nat) (Option.some Jvm.ClassFile.FieldType.long), Jvm.Cond.code ({ cls := "com/example/varese/varese/Interval", name := "encloses", desc := "(Lcom/example/varese/varese/Interval;)Z" } : Jvm.MethodName) prog_46_method_4_code (2 : Nat) (Option.some Jvm.ClassFile.FieldType.boolean), Jvm.Cond.code ({ cls := "com/example/varese/varese/IntervalEnclosesPinLaw", name := "in", desc := "(Lcom/example/varese/varese/Interval;J)Z" } : Jvm.MethodName) method_3_code (3 : Nat) (Option.some Jvm.ClassFile.FieldType.boolean), Jvm.Cond.code ({ cls := "com/example/varese/varese/Interval", name := "end", desc := "()J" } : Jvm.MethodName) prog_46_method_13_code (1 : Nat) (Option.some Jvm.ClassFile.FieldType.long)]
set_option maxRecDepth 65536 in
theorem codes_eq : words1.filter isCode = codes1 := rfl
theorem w_codes : ∀ c ∈ words1.filter isCode, c.before args0 about1 = true := by
  rw [codes_eq]
  intro c hc
  simp only [codes1, List.mem_cons, List.not_mem_nil, or_false] at hc
  rcases hc with rfl | rfl | rfl | rfl | rfl | rfl | rfl | rfl | rfl | rfl | rfl
  · exact w_c0
  · exact w_c1
  · exact w_c2
  · exact w_c3
  · exact w_c4
  · exact w_c5
  · exact w_c6
  · exact w_c7
  · exact w_c8
  · exact w_c9
  · exact w_c10
set_option maxRecDepth 65536 in
theorem w_t1 : (words1.take 24).all (fun c => isCode c || c.before args0 about1) = true := by decide +kernel
set_option maxRecDepth 65536 in
theorem w_t2 : ((words1.drop 24).take 24).all (fun c => isCode c || c.before args0 about1) = true := by decide +kernel
set_option maxRecDepth 65536 in
theorem w_t3 : ((words1.drop 24).drop 24).all (fun c => isCode c || c.before args0 about1) = true := by decide +kernel
theorem w_tables : (allAtoms (Jvm.Cond.code x code maxLocals ret :: tables_1)).before args0 about1 = true := by
  rw [allAtoms_all]
  show words1.all (fun c => c.before args0 about1) = true
  refine all_split ?_ w_codes
  rw [← List.take_append_drop 24 words1, List.all_append, w_t1, ← List.take_append_drop 24 (words1.drop 24), List.all_append, w_t2, w_t3]
  rfl
set_option maxRecDepth 65536 in
theorem w_case : (Jvm.Cond.and given_1 narrow_1).before args0 about1 = true := by decide +kernel
theorem w_applies : (headSpec (Jvm.Cond.code x code maxLocals ret :: tables_1) room_1).applies x e0.platform about1 = true :=
  (Spec.applies_iff w_frames).mpr ⟨w_running, w_runnable, w_alone, w_named, w_hears, w_ripe, w_room, w_tables⟩
theorem atStart : AtStart classFile x code maxLocals ret World_1 tables_1 room_1 Calls_1 rest_1 Pre_1 launch0 p0 e0 about1 theMethod args0 below0 :=
  ⟨lists_1, trivial, launch0.admits_env _ _ _, launch0.least_env, fairChoices_fair.cas, fairChoices_fair.clock, w_frames, w_args, w_heap, w_applies, trivial, trivial, w_case⟩
end start1
theorem witness_1 : WitnessClaimed_1 := ⟨start1.p0, start1.e0, start1.about1, start1.theMethod, start1.args0, start1.below0, start1.atStart⟩
end Jvm.Pilot.@@N@@
