import JvmDerived
import JvmDerived.Pilot.@@N@@Statement
import JvmDerived.Pilot.@@N@@Code
set_option linter.unusedVariables false
set_option linter.unusedSimpArgs false
namespace Jvm.RoadKit
open Sem ClassFile Op Lib Jvm.Stand Jvm.Free Jvm.LawKit
section New
variable {p : Program} {l : Launch} {e : Env} {R : Room} {s : State} {m : MethodId} {args : Array Value} {below : List Frame} {meth : Method} {c : Code} {T : State} {locs : List Loc} {cells slots : Nat}
theorem retI (X : Stand p l e R s m args below meth c T locs cells slots) (hx : p.tables.exec = Jvm.exec) {pc : Nat} {Ls : Array Slot} {z : Int32} {rest : List Value} (hret : meth.sig.returnType = some .int) (hd : decode c.code pc = .ok (.ireturn, 1)) {fs : List Frame}
    (hl : ∀ (f : JFrame) (acts : List Action), f.method = m → f.locked = none → f.entered = [] → (doReturn e (T.setTop f) acts (some (.int z))).1 = T.setFrames fs) : Steps p.tables e below (T.setTop (mkF m pc Ls (.int z :: rest))) (T.setFrames fs) := by
  have hm' : T.vm.method? m = some meth := X.method'
  have hn : narrow .int (.int z) = .int z := rfl
  show Steps p.tables e below (T.setTop { method := m, pc := pc, locals := Ls, stack := _ :: rest, locked := none }) _
  jvm_step X.here [X.here.top, hx, hd, hm', hret, hn]
  first | (intro acts; rw [hl _ acts rfl rfl rfl]) | rw [hl _ _ rfl rfl rfl]
  exact Steps.refl _
end New
end Jvm.RoadKit
namespace Jvm.Pilot.@@N@@
open Jvm Jvm.ClassFile Sem Op Lib Jvm.Free Jvm.Stand Jvm.LawKit Jvm.RoadKit Bundle Jvm.Pilot.@@N@@.Jvm.D
/-! plain numbers -/
def own_fl (x : Int32) : Int32 := if x = (0 : Int32) then 0 else 1
def own_sg (g : Int32) (x : Int64) : Int64 := if g = (0 : Int32) then x else -x
def own_val (g : Int32) (x : Int64) (w : Int32) : Int64 := (own_sg g x <<< (((64 : Int32) - w) &&& 0x3f).toInt64) >>> (((64 : Int32) - w) &&& 0x3f).toInt64
def own_pm (w : Int32) (m : Int64) : Int64 := if w = (64 : Int32) then m else m &&& (((1 : Int64) <<< (w &&& 0x3f).toInt64) - (1 : Int64))
def own_nm (e w : Int32) (m : Int64) : Int64 := if e = (0 : Int32) then m &&& (((1 : Int64) <<< ((w - (1 : Int32)) &&& 0x3f).toInt64) - (1 : Int64)) else (1 : Int64) <<< ((w - (1 : Int32)) &&& 0x3f).toInt64
theorem own_bm (a : Int) (P H : Nat) (hP : 0 < P) : Int.bmod (a * P) (P * (2 * H)) / P = Int.bmod a (2 * H) := by
  have hP' : (0 : Int) < P := by omega
  have e1 : (a * P) % ((P * (2 * H) : Nat) : Int) = P * (a % ((2 * H : Nat) : Int)) := by
    rw [Int.mul_comm a, Int.natCast_mul, Int.mul_emod_mul_of_pos _ _ hP']
  have e2 : (((P * (2 * H) : Nat) : Int) + 1) / 2 = P * H := by
    have : ((P * (2 * H) : Nat) : Int) = 2 * (P * H) := by push_cast; rw [Int.mul_left_comm]
    rw [this]; generalize (P : Int) * (H : Int) = z; omega
  have e3 : (((2 * H : Nat) : Int) + 1) / 2 = H := by push_cast; omega
  rw [Int.bmod_def, Int.bmod_def, e1, e2, e3]
  by_cases h : a % ((2 * H : Nat) : Int) < (H : Int)
  · rw [if_pos h, if_pos (Int.mul_lt_mul_of_pos_left h hP'), Int.mul_ediv_cancel_left _ (by omega)]
  · have h' : ¬ ((P : Int) * (a % ((2 * H : Nat) : Int)) < (P : Int) * (H : Int)) := fun q => h (Int.lt_of_mul_lt_mul_left q (by omega))
    rw [if_neg h, if_neg h', show ((P * (2 * H) : Nat) : Int) = (P : Int) * ((2 * H : Nat) : Int) from Int.natCast_mul _ _, ← Int.mul_sub, Int.mul_ediv_cancel_left _ (by omega)]
theorem own_amt : ∀ k : Nat, k < 64 → (Int32.ofNat k &&& 0x3f).toInt64 = Int64.ofNat k ∧ (Int64.ofNat k).toBitVec.smod 64 = BitVec.ofNat 64 k := by decide +kernel
theorem own_i32 {y : Int32} {k : Nat} (hk : k < 2 ^ 31) (hy : y.toInt = k) : y = Int32.ofNat k := by
  apply Int32.toInt_inj.mp; rw [hy, Int32.toInt_ofNat_of_lt (by omega)]
theorem own_shl (x : Int64) (k : Nat) (hk : k < 64) : (x <<< Int64.ofNat k).toBitVec = x.toBitVec <<< k := by
  rw [Int64.toBitVec_shiftLeft, (own_amt k hk).2, BitVec.shiftLeft_eq', BitVec.toNat_ofNat, Nat.mod_eq_of_lt (by omega)]
theorem own_shr (x : Int64) (k : Nat) (hk : k < 64) : (x >>> Int64.ofNat k).toBitVec = x.toBitVec.sshiftRight k := by
  rw [Int64.toBitVec_shiftRight, (own_amt k hk).2, BitVec.sshiftRight_eq', BitVec.toNat_ofNat, Nat.mod_eq_of_lt (by omega)]
theorem own_sx (x : Int64) (k : Nat) (hk : k < 64) : ((x <<< Int64.ofNat k) >>> Int64.ofNat k).toInt = Int.bmod x.toInt (2 ^ (64 - k)) := by
  show ((x <<< Int64.ofNat k) >>> Int64.ofNat k).toBitVec.toInt = _
  rw [own_shr _ k hk, own_shl _ k hk, BitVec.toInt_sshiftRight, BitVec.toInt_shiftLeft, Nat.shiftLeft_eq, Int.shiftRight_eq_div_pow]
  have hp : 2 ^ (64 - k) = 2 * 2 ^ (63 - k) := by rw [← Nat.pow_succ']; congr 1; omega
  have hq : (2 : Nat) ^ 64 = 2 ^ k * (2 * 2 ^ (63 - k)) := by rw [← hp, ← Nat.pow_add]; congr 1; omega
  have h1 := own_bm (x.toBitVec.toNat : Int) (2 ^ k) (2 ^ (63 - k)) (Nat.pow_pos (by decide))
  rw [← hq] at h1
  rw [Int.natCast_mul, h1, ← hp]
  show _ = Int.bmod x.toBitVec.toInt _
  rw [BitVec.toInt_eq_toNat_bmod, Int.bmod_bmod_of_dvd (Nat.pow_dvd_pow 2 (by omega))]
theorem own_one (k : Nat) (hk : k < 64) : ((1 : Int64) <<< Int64.ofNat k).toBitVec.toNat = 2 ^ k := by
  rw [own_shl _ k hk, BitVec.toNat_shiftLeft, Nat.shiftLeft_eq]
  show 1 * 2 ^ k % 2 ^ 64 = 2 ^ k
  rw [Nat.one_mul, Nat.mod_eq_of_lt (Nat.pow_lt_pow_right (by decide) hk)]
theorem own_mask (m : Int64) (k : Nat) (hk : k < 64) : (m &&& (((1 : Int64) <<< Int64.ofNat k) - (1 : Int64))).toBitVec.toNat = m.toBitVec.toNat % 2 ^ k := by
  rw [Int64.toBitVec_and, Int64.toBitVec_sub, BitVec.toNat_and, BitVec.toNat_sub, own_one k hk]
  have h1 : (1 : Int64).toBitVec.toNat = 1 := by decide
  have h2 : 0 < 2 ^ k := Nat.pow_pos (by decide)
  have h3 : 2 ^ k < 2 ^ 64 := Nat.pow_lt_pow_right (by decide) hk
  rw [h1]
  have h4 : (2 ^ 64 - 1 + 2 ^ k) % 2 ^ 64 = 2 ^ k - 1 := by omega
  rw [h4, Nat.and_two_pow_sub_one_eq_mod]
theorem own_toInt_lt {x : Int64} {n : Nat} (h : x.toBitVec.toNat = n) (hn : n < 2 ^ 63) : x.toInt = n := by
  show x.toBitVec.toInt = n
  rw [BitVec.toInt_eq_toNat_bmod, h, Int.bmod_def]
  have : ((n : Int) % ((2 ^ 64 : Nat) : Int)) = n := Int.emod_eq_of_lt (by omega) (by omega)
  rw [this, if_pos (by omega)]
theorem own_wd (p2 : Int32) : ∃ n : Nat, 1 ≤ n ∧ n ≤ 64 ∧ ((1 : Int32) + (p2 &&& (63 : Int32))) = Int32.ofNat n := by
  have h1 : (p2 &&& (63 : Int32)).toBitVec.toNat < 64 := by
    rw [Int32.toBitVec_and, BitVec.toNat_and]
    exact Nat.lt_of_le_of_lt Nat.and_le_right (by decide)
  refine ⟨1 + (p2 &&& (63 : Int32)).toBitVec.toNat, by omega, by omega, ?_⟩
  generalize (p2 &&& (63 : Int32)) = z at h1
  apply Int32.toBitVec_inj.mp
  apply BitVec.eq_of_toNat_eq
  rw [Int32.toBitVec_add, BitVec.toNat_add]
  have h2 : (1 : Int32).toBitVec.toNat = 1 := by decide
  rw [h2]
  show _ = (BitVec.ofNat 32 (1 + z.toBitVec.toNat)).toNat
  rw [BitVec.toNat_ofNat]
theorem own_64 : ∀ n : Nat, n < 65 → 1 ≤ n → (((64 : Int32) - Int32.ofNat n) &&& 0x3f).toInt64 = Int64.ofNat (64 - n) ∧ ((Int32.ofNat n - (1 : Int32)) &&& 0x3f).toInt64 = Int64.ofNat (n - 1) ∧ (n ≠ 64 → (Int32.ofNat n &&& 0x3f).toInt64 = Int64.ofNat n) ∧ (Int32.ofNat n = (64 : Int32) ↔ n = 64) := by decide +kernel
theorem own_vsx (g : Int32) (x : Int64) (n : Nat) (h1 : 1 ≤ n) (h2 : n ≤ 64) : (own_val g x (Int32.ofNat n)).toInt = Int.bmod (own_sg g x).toInt (2 ^ n) := by
  unfold own_val
  rw [(own_64 n (by omega) h1).1, own_sx _ _ (by omega)]
  congr 2; omega
theorem own_bmod_of {a : Int} {n : Nat} (h1 : 1 ≤ n) (h3 : -(2 ^ (n - 1) : Nat) ≤ a) (h4 : a < (2 ^ (n - 1) : Nat)) : Int.bmod a (2 ^ n) = a := by
  have hp : 2 ^ n = 2 * 2 ^ (n - 1) := by rw [← Nat.pow_succ']; congr 1; omega
  rw [hp]
  generalize 2 ^ (n - 1) = H at *
  apply Int.bmod_eq_of_le_mul_two <;> omega
theorem own_lawA (e p2 : Int32) (q3 : Int64) : own_val (1 : Int32) (own_nm e ((1 : Int32) + (p2 &&& (63 : Int32))) q3) ((1 : Int32) + (p2 &&& (63 : Int32))) = -(own_nm e ((1 : Int32) + (p2 &&& (63 : Int32))) q3) := by
  obtain ⟨n, h1, h2, e0⟩ := own_wd p2
  rw [e0]
  apply Int64.toInt_inj.mp
  rw [own_vsx _ _ n h1 h2]
  show Int.bmod (-(own_nm e (Int32.ofNat n) q3)).toInt (2 ^ n) = _
  have key : ∃ r : Nat, r ≤ 2 ^ (n - 1) ∧ (-(own_nm e (Int32.ofNat n) q3)).toInt = -(r : Int) := by
    have hp : 2 ^ (n - 1) ≤ 2 ^ 63 := Nat.pow_le_pow_right (by decide) (by omega)
    unfold own_nm
    rw [(own_64 n (by omega) h1).2.1]
    have gen : ∀ (z : Int64) (r : Nat), z.toBitVec.toNat = r → r ≤ 2 ^ 63 → (-z).toInt = -(r : Int) := by
      intro z r hz hr
      rw [Int64.toInt_neg]
      by_cases hr' : r = 2 ^ 63
      · have : z.toInt = -(2 ^ 63) := by
          show z.toBitVec.toInt = _
          rw [BitVec.toInt_eq_toNat_bmod, hz, hr']; decide
        rw [this, hr']; decide
      · rw [own_toInt_lt hz (by omega), Int.bmod_def]
        have : (-(r : Int)) % ((2 ^ 64 : Nat) : Int) = if r = 0 then 0 else 2 ^ 64 - (r : Int) := by
          split <;> omega
        rw [this]; split <;> split <;> omega
    split
    · exact ⟨q3.toBitVec.toNat % 2 ^ (n - 1), Nat.le_of_lt (Nat.mod_lt _ (Nat.pow_pos (by decide))), gen _ _ (own_mask q3 (n - 1) (by omega)) (Nat.le_trans (Nat.le_of_lt (Nat.mod_lt _ (Nat.pow_pos (by decide)))) hp)⟩
    · exact ⟨2 ^ (n - 1), Nat.le_refl _, gen _ _ (own_one (n - 1) (by omega)) hp⟩
  obtain ⟨r, hr, er⟩ := key
  rw [er]
  have : 0 < 2 ^ (n - 1) := Nat.pow_pos (by decide)
  exact own_bmod_of h1 (by omega) (by omega)
theorem own_lawB (p2 : Int32) (q3 : Int64) (hd : ((1 : Int32) + (p2 &&& (63 : Int32))) = (64 : Int32)) : own_val (0 : Int32) (own_pm ((1 : Int32) + (p2 &&& (63 : Int32))) q3) ((1 : Int32) + (p2 &&& (63 : Int32))) = own_pm ((1 : Int32) + (p2 &&& (63 : Int32))) q3 := by
  rw [hd]
  apply Int64.toInt_inj.mp
  have := own_vsx (0 : Int32) (own_pm (64 : Int32) q3) 64 (by decide) (by decide)
  rw [show (Int32.ofNat 64) = (64 : Int32) from rfl] at this
  rw [this]
  show Int.bmod (own_pm (64 : Int32) q3).toInt (2 ^ 64) = _
  have h1 := (own_pm (64 : Int32) q3).toInt_lt
  have h2 := (own_pm (64 : Int32) q3).le_toInt
  exact own_bmod_of (by decide) (by simpa using h2) (by simpa using h1)
theorem own_pos (p2 : Int32) (q3 : Int64) (hd : ¬ (((1 : Int32) + (p2 &&& (63 : Int32))) = (64 : Int32))) : ∃ n r : Nat, 1 ≤ n ∧ n ≤ 63 ∧ ((1 : Int32) + (p2 &&& (63 : Int32))) = Int32.ofNat n ∧ r < 2 ^ n ∧ (own_pm (Int32.ofNat n) q3).toInt = (r : Int) ∧ ((1 : Int64) <<< ((Int32.ofNat n - (1 : Int32)) &&& 0x3f).toInt64).toInt = ((2 ^ (n - 1) : Nat) : Int) ∧ ((1 : Int64) <<< (Int32.ofNat n &&& 0x3f).toInt64).toBitVec.toNat = 2 ^ n := by
  obtain ⟨n, h1, h2, e0⟩ := own_wd p2
  rw [e0] at hd
  have h64 := own_64 n (by omega) h1
  have hn : n ≠ 64 := fun q => hd (h64.2.2.2.mpr q)
  have hp : 2 ^ n ≤ 2 ^ 63 := Nat.pow_le_pow_right (by decide) (by omega)
  have hr : q3.toBitVec.toNat % 2 ^ n < 2 ^ n := Nat.mod_lt _ (Nat.pow_pos (by decide))
  refine ⟨n, q3.toBitVec.toNat % 2 ^ n, h1, by omega, e0, hr, ?_, ?_, ?_⟩
  · unfold own_pm; rw [if_neg hd, h64.2.2.1 hn]
    exact own_toInt_lt (own_mask q3 n (by omega)) (by omega)
  · rw [h64.2.1]
    exact own_toInt_lt (own_one (n - 1) (by omega)) (Nat.pow_lt_pow_right (by decide) (by omega))
  · rw [h64.2.2.1 hn]; exact own_one n (by omega)
theorem own_lawC (p2 : Int32) (q3 : Int64) (hd : ¬ (((1 : Int32) + (p2 &&& (63 : Int32))) = (64 : Int32))) (he : own_pm ((1 : Int32) + (p2 &&& (63 : Int32))) q3 < (1 : Int64) <<< ((((1 : Int32) + (p2 &&& (63 : Int32))) - (1 : Int32)) &&& 0x3f).toInt64) : own_val (0 : Int32) (own_pm ((1 : Int32) + (p2 &&& (63 : Int32))) q3) ((1 : Int32) + (p2 &&& (63 : Int32))) = own_pm ((1 : Int32) + (p2 &&& (63 : Int32))) q3 := by
  obtain ⟨n, r, h1, h2, e0, h3, h4, h5, h6⟩ := own_pos p2 q3 hd
  rw [e0] at he ⊢
  rw [Int64.lt_iff_toInt_lt, h4, h5] at he
  apply Int64.toInt_inj.mp
  rw [own_vsx _ _ n h1 (by omega)]
  show Int.bmod (own_pm (Int32.ofNat n) q3).toInt (2 ^ n) = _
  rw [h4]
  exact own_bmod_of h1 (by omega) (by omega)
theorem own_lawD (p2 : Int32) (q3 : Int64) (hd : ¬ (((1 : Int32) + (p2 &&& (63 : Int32))) = (64 : Int32))) (he : ¬ (own_pm ((1 : Int32) + (p2 &&& (63 : Int32))) q3 < (1 : Int64) <<< ((((1 : Int32) + (p2 &&& (63 : Int32))) - (1 : Int32)) &&& 0x3f).toInt64)) : own_val (0 : Int32) (own_pm ((1 : Int32) + (p2 &&& (63 : Int32))) q3) ((1 : Int32) + (p2 &&& (63 : Int32))) = (own_pm ((1 : Int32) + (p2 &&& (63 : Int32))) q3) - ((1 : Int64) <<< (((1 : Int32) + (p2 &&& (63 : Int32))) &&& 0x3f).toInt64) := by
  obtain ⟨n, r, h1, h2, e0, h3, h4, h5, h6⟩ := own_pos p2 q3 hd
  rw [e0] at he ⊢
  rw [Int64.lt_iff_toInt_lt, h4, h5] at he
  apply Int64.toInt_inj.mp
  rw [own_vsx _ _ n h1 (by omega)]
  show Int.bmod (own_pm (Int32.ofNat n) q3).toInt (2 ^ n) = _
  rw [Int64.toInt_sub, h4]
  have hp : 2 ^ n = 2 * 2 ^ (n - 1) := by rw [← Nat.pow_succ']; congr 1; omega
  have h63 : 2 ^ n ≤ 2 ^ 63 := Nat.pow_le_pow_right (by decide) (by omega)
  have e1 : Int.bmod (r : Int) (2 ^ n) = (r : Int) - (2 ^ n : Nat) := by
    have : Int.bmod ((r : Int) - (2 ^ n : Nat)) (2 ^ n) = (r : Int) - (2 ^ n : Nat) := own_bmod_of h1 (by omega) (by omega)
    rw [← this, Int.sub_bmod_right]
  have e2 : ((1 : Int64) <<< (Int32.ofNat n &&& 0x3f).toInt64).toInt = Int.bmod (2 ^ n : Nat) (2 ^ 64) := by
    show ((1 : Int64) <<< (Int32.ofNat n &&& 0x3f).toInt64).toBitVec.toInt = _
    rw [BitVec.toInt_eq_toNat_bmod, h6]
  rw [e1, e2, Int.sub_bmod_bmod]
  exact (own_bmod_of (n := 64) (by decide) (by omega) (by omega)).symm
theorem d2_0 : decode jdk_30_method_1_code 0 = .ok (.aload_n 0, 1) := by decide +kernel
theorem d2_1 : decode jdk_30_method_1_code 1 = .ok (.invokespecial 1, 3) := by decide +kernel
theorem d2_4 : decode jdk_30_method_1_code 4 = .ok (.return_, 1) := by decide +kernel
theorem pn_0 : plainName "java/lang/Record" = true := by first | (simp [plainName, overriddenIn]; done) | decide +kernel
theorem ef_rm2 (m : MethodId) (x0 : Addr) : entryFrame m #[(.ref x0)] 1 = mkF m 0 #[.val (.ref x0)] [] := by first | (simp [entryFrame, mkF, argsToLocals, Value.category]; done) | rfl
def Q_rm2 (Z : State) (a1 : Addr)  (h0 : Heap) (n0 : Nat) (v : Option Value) (h : Heap) (L : List Loc) : Prop := v = none ∧ Fr n0 L ∧ h = h0
set_option maxRecDepth 65536 in
set_option maxHeartbeats 40000000 in
theorem rm2 (l : Launch) (Z : State) (a0 : Array Value) (hw : ∀ d ∈ tables_1, d.before a0 Z = true) (ws : List Jvm.Cond) (a1 : Addr)  (h0 : Heap) (n0 : Nat) (Z0 : n0 ≤ h0.size)  :
    MetFree l (⟨"java/lang/Record", "<init>", "()V"⟩ : MethodName) (head1 (Jvm.Cond.code (⟨"java/lang/Record", "<init>", "()V"⟩ : MethodName) jdk_30_method_1_code 1 none :: ws) ({ frames := 1, cells := 0, slots := 0, locals := 12 } : Room)) (fun a U => a = #[(.ref a1)] ∧ Z.Warmed39 U.vm ∧ U.heap = h0) (fun _ _ _ _ _ => True) (fun _ U o U' => ∃ v L, o = .returned v ∧ Q_rm2 Z a1  h0 n0 v U'.heap L ∧ FrameEnd U o U' L ({ frames := 1, cells := 0, slots := 0, locals := 12 } : Room).cells ({ frames := 1, cells := 0, slots := 0, locals := 12 } : Room).slots) := by
  refine MetFree.of_bodySF (plainFor_of_name pn_0) hisR ?_
  intro p e s m args below meth c s₁ Bd hml0 hP hK
  obtain ⟨rfl, hZ, hh⟩ := hP
  have hx := Bd.exec
  have hby := Bd.bytes
  have hml : c.maxLocals = 1 := hml0
  have hown : s.vm.findClass "java/lang/Record" = some m.cls := findClass_of_methodNamed Bd.named
  have hnm := (name_of_methodNamed Bd.named Bd.method).1
  have X0 : Stand p l e ({ frames := 1, cells := 0, slots := 0, locals := 12 } : Room) s m #[(.ref a1)] below meth c s₁ [] 0 0 := Stand.of_body Bd
  have e0 : s₁.heap = h0 := by rw [← hh, Bd.state]; rfl
  have N0 := Fr.nil n0
  have pre0 : ∀ t, Steps p.tables e below (s₁.setTop (mkF m 0 #[.val (.ref a1)] [])) t → Steps p.tables e below (s₁.setTop (entryFrame m #[(.ref a1)] 1)) t := fun t k => castTop (ef_rm2 m a1) k
  have R0 : ∀ t, Steps p.tables e below (s₁.setTop (mkF m 0 #[.val (.ref a1)] [])) t → Steps p.tables e below (s₁.setTop (mkF m 0 #[.val (.ref a1)] [])) t := fun _ k => k
  have R1 : ∀ t, Steps p.tables e below (s₁.setTop (mkF m 1 #[.val (.ref a1)] [(.ref a1)])) t → Steps p.tables e below (s₁.setTop (mkF m 0 #[.val (.ref a1)] [])) t := by
    intro t k
    refine R0 t ?_
    refine XS.aloadN X0.here hx rfl (hb hby d2_0) rfl rfl ?_
    exact k
  obtain ⟨T2, X2, e2, st2⟩ := initO X0 hx hZ hown (hw _ (List.mem_of_getElem? (i := 19) rfl)) (hw _ (List.mem_of_getElem? (i := 20) rfl)) (hw _ (List.mem_of_getElem? (i := 21) rfl)) e0 (g := (mkF m 1 #[.val (.ref a1)] [(.ref a1)])) rfl (by rw [hml]; rfl) rfl (hb hby d2_1) (by decide) (W := 0) (by show 2 * 0 + _ ≤ _; exact Nat.le_of_eq rfl) (by decide)
  have R3 : ∀ t, Steps p.tables e below (T2.setTop (mkF m 4 #[.val (.ref a1)] [])) t → Steps p.tables e below (s₁.setTop (mkF m 0 #[.val (.ref a1)] [])) t := fun t k => R1 t (st2 _ k)
  obtain ⟨fs, hr, hrun, hended, hW, hsame⟩ := X2.leave (v := none) (fun _ => rfl)
  refine ⟨_, _, pre0 _ (R3 _ (X2.returnOut hx Bd.returns (hb hby d2_4) hr)), hrun, hended, _, _, rfl, ?_, ⟨_, rfl⟩, hW, hsame.mono (by decide) (by decide)⟩
  show Q_rm2 Z a1  h0 n0 _ T2.heap _
  rw [e2]
  exact ⟨rfl, N0, rfl⟩
theorem d1_0 : decode prog_142_method_1_code 0 = .ok (.aload_n 0, 1) := by decide +kernel
theorem d1_1 : decode prog_142_method_1_code 1 = .ok (.invokespecial 1, 3) := by decide +kernel
theorem d1_4 : decode prog_142_method_1_code 4 = .ok (.aload_n 0, 1) := by decide +kernel
theorem d1_5 : decode prog_142_method_1_code 5 = .ok (.iload_n 1, 1) := by decide +kernel
theorem d1_6 : decode prog_142_method_1_code 6 = .ok (.putfield 7, 3) := by decide +kernel
theorem d1_9 : decode prog_142_method_1_code 9 = .ok (.aload_n 0, 1) := by decide +kernel
theorem d1_10 : decode prog_142_method_1_code 10 = .ok (.lload_n 2, 1) := by decide +kernel
theorem d1_11 : decode prog_142_method_1_code 11 = .ok (.putfield 13, 3) := by decide +kernel
theorem d1_14 : decode prog_142_method_1_code 14 = .ok (.aload_n 0, 1) := by decide +kernel
theorem d1_15 : decode prog_142_method_1_code 15 = .ok (.iload 4, 2) := by decide +kernel
theorem d1_17 : decode prog_142_method_1_code 17 = .ok (.putfield 17, 3) := by decide +kernel
theorem d1_20 : decode prog_142_method_1_code 20 = .ok (.aload_n 0, 1) := by decide +kernel
theorem d1_21 : decode prog_142_method_1_code 21 = .ok (.aload 5, 2) := by decide +kernel
theorem d1_23 : decode prog_142_method_1_code 23 = .ok (.putfield 21, 3) := by decide +kernel
theorem d1_26 : decode prog_142_method_1_code 26 = .ok (.return_, 1) := by decide +kernel
theorem pn_1 : plainName "com/example/rigorous_bytecode/rigorousbytecode/text/TextScanner$IntegerLiteral" = true := by first | (simp [plainName, overriddenIn]; done) | decide +kernel
theorem pd_0 : parseMethodDescriptor "()V" = some ⟨[], none⟩ := by decide +kernel
theorem ef_rm1 (m : MethodId) (x0 : Addr) (x1 : Int32) (x2 : Int64) (x3 : Int32) (x4 : Addr) : entryFrame m #[(.ref x0), (.int x1), (.long x2), (.int x3), (.ref x4)] 6 = mkF m 0 #[.val (.ref x0), .val (.int x1), .val (.long x2), .second, .val (.int x3), .val (.ref x4)] [] := by first | (simp [entryFrame, mkF, argsToLocals, Value.category]; done) | rfl
def Q_rm1 (Z : State) (a1 : Addr) (p1 : Int32) (q2 : Int64) (p3 : Int32) (a4 : Addr) (u1 : Value) (u2 : Value) (u3 : Value) (u4 : Value) (h0 : Heap) (n0 : Nat) (v : Option Value) (h : Heap) (L : List Loc) : Prop := v = none ∧ Fr n0 L ∧ Keep h0 h [a1] ∧ Fld Z h a1 "com/example/rigorous_bytecode/rigorousbytecode/text/TextScanner$IntegerLiteral" "negative" "Z" (.int p1) ∧ Fld Z h a1 "com/example/rigorous_bytecode/rigorousbytecode/text/TextScanner$IntegerLiteral" "magnitude" "J" (.long q2)
set_option maxRecDepth 65536 in
set_option maxHeartbeats 40000000 in
theorem rm1 (l : Launch) (Z : State) (a0 : Array Value) (hw : ∀ d ∈ tables_1, d.before a0 Z = true) (ws : List Jvm.Cond) (a1 : Addr) (p1 : Int32) (q2 : Int64) (p3 : Int32) (a4 : Addr) (u1 : Value) (u2 : Value) (u3 : Value) (u4 : Value) (h0 : Heap) (n0 : Nat) (Z0 : n0 ≤ h0.size) (E_0 : Exa Z h0 a1 "com/example/rigorous_bytecode/rigorousbytecode/text/TextScanner$IntegerLiteral") (F_00 : Fld Z h0 a1 "com/example/rigorous_bytecode/rigorousbytecode/text/TextScanner$IntegerLiteral" "negative" "Z" u1) (F_01 : Fld Z h0 a1 "com/example/rigorous_bytecode/rigorousbytecode/text/TextScanner$IntegerLiteral" "magnitude" "J" u2) (F_02 : Fld Z h0 a1 "com/example/rigorous_bytecode/rigorousbytecode/text/TextScanner$IntegerLiteral" "suffixWidth" "I" u3) (F_03 : Fld Z h0 a1 "com/example/rigorous_bytecode/rigorousbytecode/text/TextScanner$IntegerLiteral" "spelling" "Ljava/lang/String;" u4) (n_a1 : n0 ≤ a1) (hb01 : p1 = (0 : Int32) ∨ p1 = (1 : Int32)) :
    MetFree l (⟨"com/example/rigorous_bytecode/rigorousbytecode/text/TextScanner$IntegerLiteral", "<init>", "(ZJILjava/lang/String;)V"⟩ : MethodName) (head1 (Jvm.Cond.code (⟨"com/example/rigorous_bytecode/rigorousbytecode/text/TextScanner$IntegerLiteral", "<init>", "(ZJILjava/lang/String;)V"⟩ : MethodName) prog_142_method_1_code 6 none :: ws) ({ frames := 2, cells := 0, slots := 0, locals := 24 } : Room)) (fun a U => a = #[(.ref a1), (.int p1), (.long q2), (.int p3), (.ref a4)] ∧ Z.Warmed39 U.vm ∧ U.heap = h0) (fun _ _ _ _ _ => True) (fun _ U o U' => ∃ v L, o = .returned v ∧ Q_rm1 Z a1 p1 q2 p3 a4 u1 u2 u3 u4 h0 n0 v U'.heap L ∧ FrameEnd U o U' L ({ frames := 2, cells := 0, slots := 0, locals := 24 } : Room).cells ({ frames := 2, cells := 0, slots := 0, locals := 24 } : Room).slots) := by
  refine MetFree.of_bodySF (plainFor_of_name pn_1) hisR ?_
  intro p e s m args below meth c s₁ Bd hml0 hP hK
  obtain ⟨rfl, hZ, hh⟩ := hP
  have hx := Bd.exec
  have hby := Bd.bytes
  have hml : c.maxLocals = 6 := hml0
  have hown : s.vm.findClass "com/example/rigorous_bytecode/rigorousbytecode/text/TextScanner$IntegerLiteral" = some m.cls := findClass_of_methodNamed Bd.named
  have hnm := (name_of_methodNamed Bd.named Bd.method).1
  have X0 : Stand p l e ({ frames := 2, cells := 0, slots := 0, locals := 24 } : Room) s m #[(.ref a1), (.int p1), (.long q2), (.int p3), (.ref a4)] below meth c s₁ [] 0 0 := Stand.of_body Bd
  have e0 : s₁.heap = h0 := by rw [← hh, Bd.state]; rfl
  have N0 := Fr.nil n0
  have pre0 : ∀ t, Steps p.tables e below (s₁.setTop (mkF m 0 #[.val (.ref a1), .val (.int p1), .val (.long q2), .second, .val (.int p3), .val (.ref a4)] [])) t → Steps p.tables e below (s₁.setTop (entryFrame m #[(.ref a1), (.int p1), (.long q2), (.int p3), (.ref a4)] 6)) t := fun t k => castTop (ef_rm1 m a1 p1 q2 p3 a4) k
  have R0 : ∀ t, Steps p.tables e below (s₁.setTop (mkF m 0 #[.val (.ref a1), .val (.int p1), .val (.long q2), .second, .val (.int p3), .val (.ref a4)] [])) t → Steps p.tables e below (s₁.setTop (mkF m 0 #[.val (.ref a1), .val (.int p1), .val (.long q2), .second, .val (.int p3), .val (.ref a4)] [])) t := fun _ k => k
  have R4 : ∀ t, Steps p.tables e below (s₁.setTop (mkF m 1 #[.val (.ref a1), .val (.int p1), .val (.long q2), .second, .val (.int p3), .val (.ref a4)] [(.ref a1)])) t → Steps p.tables e below (s₁.setTop (mkF m 0 #[.val (.ref a1), .val (.int p1), .val (.long q2), .second, .val (.int p3), .val (.ref a4)] [])) t := by
    intro t k
    refine R0 t ?_
    refine XS.aloadN X0.here hx rfl (hb hby d1_0) rfl rfl ?_
    exact k
  obtain ⟨_, _, ⟨T5, L5, k5, n5⟩, -, X5, ⟨Lc5, hQ5, l5, y5, z5⟩, st5⟩ := X0.specialBack hx (y := (⟨"java/lang/Record", "<init>", "()V"⟩ : MethodName)) rfl hown (mvT hZ (hw _ (List.mem_of_getElem? (i := 14) rfl))) (mvT hZ (hw _ (List.mem_of_getElem? (i := 15) rfl))) (mvT hZ (hw _ (List.mem_of_getElem? (i := 18) rfl))) (by decide) (backOf (W := 0) (rm2 l Z a0 hw [] a1  h0 n0 Z0 ) hZ (hw _ (List.mem_of_getElem? (i := 18) rfl)) (hw _ (List.mem_of_getElem? (i := 17) rfl)) (by decide) (by decide)) (g := (mkF m 1 #[.val (.ref a1), .val (.int p1), .val (.long q2), .second, .val (.int p3), .val (.ref a4)] [(.ref a1)])) rfl (by rw [hml]; rfl) (Steps.refl _) (a := a1) (argsL := []) (rest := []) (lenOf pd_0 rfl) rfl (by show 2 * 0 + _ ≤ _; exact Nat.le_of_eq rfl) (hb hby d1_1) (fun _ _ => ⟨rfl, e0, (by decide : 0 + 0 ≤ _), (by decide : 0 + 0 ≤ _)⟩)
  dsimp only [Pt.U, Pt.locs, Pt.cells, Pt.slots] at X5 l5 y5 z5 st5 hQ5
  subst l5 y5 z5
  obtain ⟨rfl, M5, e5⟩ := hQ5
  have N5 := Fr.app N0 M5
  have R6 : ∀ t, Steps p.tables e below (T5.setTop (mkF m 4 #[.val (.ref a1), .val (.int p1), .val (.long q2), .second, .val (.int p3), .val (.ref a4)] [])) t → Steps p.tables e below (s₁.setTop (mkF m 0 #[.val (.ref a1), .val (.int p1), .val (.long q2), .second, .val (.int p3), .val (.ref a4)] [])) t := fun t k => R4 t (st5.trans k)
  have R7 : ∀ t, Steps p.tables e below (T5.setTop (mkF m 6 #[.val (.ref a1), .val (.int p1), .val (.long q2), .second, .val (.int p3), .val (.ref a4)] [(.int p1), (.ref a1)])) t → Steps p.tables e below (s₁.setTop (mkF m 0 #[.val (.ref a1), .val (.int p1), .val (.long q2), .second, .val (.int p3), .val (.ref a4)] [])) t := by
    intro t k
    refine R6 t ?_
    refine XS.aloadN X5.here hx rfl (hb hby d1_4) rfl rfl ?_
    refine XS.iloadN X5.here hx rfl (hb hby d1_5) rfl ?_
    exact k
  obtain ⟨T8, h8, X8, e8, W8, st8⟩ := putF X5 hx hZ hown (host := "") (Or.inl (hw _ (List.mem_of_getElem? (i := 22) rfl))) Via.refl e5 F_00 E_0 (Or.inr ⟨(hw _ (List.mem_of_getElem? (i := 23) rfl)), rfl, hnm⟩) (hw _ (List.mem_of_getElem? (i := 1) rfl)) (ty := .boolean) (by decide) (by rcases hb01 with rfl | rfl <;> rfl) (by rcases hb01 with rfl | rfl <;> rfl) (g := (mkF m 6 #[.val (.ref a1), .val (.int p1), .val (.long q2), .second, .val (.int p3), .val (.ref a4)] [(.int p1), (.ref a1)])) rfl rfl (hb hby d1_6)
  have N8 := Fr.snoc X8 N5 n_a1
  have Z8 : n0 ≤ h8.size := Nat.le_trans Z0 (Keep.of_wr W8).1
  have K8 : Keep h0 h8 [a1] := (Keep.refl h0 [a1]).wr W8 (Or.inl (List.mem_of_getElem? (i := 0) rfl))
  have E_9 : Exa Z h8 a1 "com/example/rigorous_bytecode/rigorousbytecode/text/TextScanner$IntegerLiteral" := E_0.wr W8
  have F_10 : Fld Z h8 a1 "com/example/rigorous_bytecode/rigorousbytecode/text/TextScanner$IntegerLiteral" "negative" "Z" (.int p1) := F_00.same W8
  have F_11 : Fld Z h8 a1 "com/example/rigorous_bytecode/rigorousbytecode/text/TextScanner$IntegerLiteral" "magnitude" "J" u2 := F_01.other W8 (Or.inr (slot_ne (Or.inr (hw _ (List.mem_of_getElem? (i := 25) rfl))) (Or.inr (hw _ (List.mem_of_getElem? (i := 23) rfl))) (by decide) (t := .long) (t' := .boolean) (by decide) (by decide)))
  have F_12 : Fld Z h8 a1 "com/example/rigorous_bytecode/rigorousbytecode/text/TextScanner$IntegerLiteral" "suffixWidth" "I" u3 := F_02.other W8 (Or.inr (slot_ne (Or.inr (hw _ (List.mem_of_getElem? (i := 27) rfl))) (Or.inr (hw _ (List.mem_of_getElem? (i := 23) rfl))) (by decide) (t := .int) (t' := .boolean) (by decide) (by decide)))
  have F_13 : Fld Z h8 a1 "com/example/rigorous_bytecode/rigorousbytecode/text/TextScanner$IntegerLiteral" "spelling" "Ljava/lang/String;" u4 := F_03.other W8 (Or.inr (slot_ne (Or.inr (hw _ (List.mem_of_getElem? (i := 29) rfl))) (Or.inr (hw _ (List.mem_of_getElem? (i := 23) rfl))) (by decide) (t := (.object "java/lang/String")) (t' := .boolean) (by decide) (by decide)))
  have R14 : ∀ t, Steps p.tables e below (T8.setTop (mkF m 9 #[.val (.ref a1), .val (.int p1), .val (.long q2), .second, .val (.int p3), .val (.ref a4)] [])) t → Steps p.tables e below (s₁.setTop (mkF m 0 #[.val (.ref a1), .val (.int p1), .val (.long q2), .second, .val (.int p3), .val (.ref a4)] [])) t := fun t k => R7 t (st8 _ k)
  have R15 : ∀ t, Steps p.tables e below (T8.setTop (mkF m 11 #[.val (.ref a1), .val (.int p1), .val (.long q2), .second, .val (.int p3), .val (.ref a4)] [(.long q2), (.ref a1)])) t → Steps p.tables e below (s₁.setTop (mkF m 0 #[.val (.ref a1), .val (.int p1), .val (.long q2), .second, .val (.int p3), .val (.ref a4)] [])) t := by
    intro t k
    refine R14 t ?_
    refine XS.aloadN X8.here hx rfl (hb hby d1_9) rfl rfl ?_
    refine XS.lloadN X8.here hx rfl (hb hby d1_10) rfl ?_
    exact k
  obtain ⟨T16, h16, X16, e16, W16, st16⟩ := putF X8 hx hZ hown (host := "") (Or.inl (hw _ (List.mem_of_getElem? (i := 24) rfl))) Via.refl e8 F_11 E_9 (Or.inr ⟨(hw _ (List.mem_of_getElem? (i := 25) rfl)), rfl, hnm⟩) (hw _ (List.mem_of_getElem? (i := 1) rfl)) (ty := .long) (by decide) rfl rfl (g := (mkF m 11 #[.val (.ref a1), .val (.int p1), .val (.long q2), .second, .val (.int p3), .val (.ref a4)] [(.long q2), (.ref a1)])) rfl rfl (hb hby d1_11)
  have N16 := Fr.snoc X16 N8 n_a1
  have Z16 : n0 ≤ h16.size := Nat.le_trans Z8 (Keep.of_wr W16).1
  have K16 : Keep h0 h16 [a1] := K8.wr W16 (Or.inl (List.mem_of_getElem? (i := 0) rfl))
  have E_17 : Exa Z h16 a1 "com/example/rigorous_bytecode/rigorousbytecode/text/TextScanner$IntegerLiteral" := E_9.wr W16
  have F_18 : Fld Z h16 a1 "com/example/rigorous_bytecode/rigorousbytecode/text/TextScanner$IntegerLiteral" "negative" "Z" (.int p1) := F_10.other W16 (Or.inr (slot_ne (Or.inr (hw _ (List.mem_of_getElem? (i := 23) rfl))) (Or.inr (hw _ (List.mem_of_getElem? (i := 25) rfl))) (by decide) (t := .boolean) (t' := .long) (by decide) (by decide)))
  have F_19 : Fld Z h16 a1 "com/example/rigorous_bytecode/rigorousbytecode/text/TextScanner$IntegerLiteral" "magnitude" "J" (.long q2) := F_11.same W16
  have F_20 : Fld Z h16 a1 "com/example/rigorous_bytecode/rigorousbytecode/text/TextScanner$IntegerLiteral" "suffixWidth" "I" u3 := F_12.other W16 (Or.inr (slot_ne (Or.inr (hw _ (List.mem_of_getElem? (i := 27) rfl))) (Or.inr (hw _ (List.mem_of_getElem? (i := 25) rfl))) (by decide) (t := .int) (t' := .long) (by decide) (by decide)))
  have F_21 : Fld Z h16 a1 "com/example/rigorous_bytecode/rigorousbytecode/text/TextScanner$IntegerLiteral" "spelling" "Ljava/lang/String;" u4 := F_13.other W16 (Or.inr (slot_ne (Or.inr (hw _ (List.mem_of_getElem? (i := 29) rfl))) (Or.inr (hw _ (List.mem_of_getElem? (i := 25) rfl))) (by decide) (t := (.object "java/lang/String")) (t' := .long) (by decide) (by decide)))
  have R22 : ∀ t, Steps p.tables e below (T16.setTop (mkF m 14 #[.val (.ref a1), .val (.int p1), .val (.long q2), .second, .val (.int p3), .val (.ref a4)] [])) t → Steps p.tables e below (s₁.setTop (mkF m 0 #[.val (.ref a1), .val (.int p1), .val (.long q2), .second, .val (.int p3), .val (.ref a4)] [])) t := fun t k => R15 t (st16 _ k)
  have R23 : ∀ t, Steps p.tables e below (T16.setTop (mkF m 17 #[.val (.ref a1), .val (.int p1), .val (.long q2), .second, .val (.int p3), .val (.ref a4)] [(.int p3), (.ref a1)])) t → Steps p.tables e below (s₁.setTop (mkF m 0 #[.val (.ref a1), .val (.int p1), .val (.long q2), .second, .val (.int p3), .val (.ref a4)] [])) t := by
    intro t k
    refine R22 t ?_
    refine XS.aloadN X16.here hx rfl (hb hby d1_14) rfl rfl ?_
    refine XS.iload X16.here hx rfl (hb hby d1_15) rfl ?_
    exact k
  obtain ⟨T24, h24, X24, e24, W24, st24⟩ := putF X16 hx hZ hown (host := "") (Or.inl (hw _ (List.mem_of_getElem? (i := 26) rfl))) Via.refl e16 F_20 E_17 (Or.inr ⟨(hw _ (List.mem_of_getElem? (i := 27) rfl)), rfl, hnm⟩) (hw _ (List.mem_of_getElem? (i := 1) rfl)) (ty := .int) (by decide) rfl rfl (g := (mkF m 17 #[.val (.ref a1), .val (.int p1), .val (.long q2), .second, .val (.int p3), .val (.ref a4)] [(.int p3), (.ref a1)])) rfl rfl (hb hby d1_17)
  have N24 := Fr.snoc X24 N16 n_a1
  have Z24 : n0 ≤ h24.size := Nat.le_trans Z16 (Keep.of_wr W24).1
  have K24 : Keep h0 h24 [a1] := K16.wr W24 (Or.inl (List.mem_of_getElem? (i := 0) rfl))
  have E_25 : Exa Z h24 a1 "com/example/rigorous_bytecode/rigorousbytecode/text/TextScanner$IntegerLiteral" := E_17.wr W24
  have F_26 : Fld Z h24 a1 "com/example/rigorous_bytecode/rigorousbytecode/text/TextScanner$IntegerLiteral" "negative" "Z" (.int p1) := F_18.other W24 (Or.inr (slot_ne (Or.inr (hw _ (List.mem_of_getElem? (i := 23) rfl))) (Or.inr (hw _ (List.mem_of_getElem? (i := 27) rfl))) (by decide) (t := .boolean) (t' := .int) (by decide) (by decide)))
  have F_27 : Fld Z h24 a1 "com/example/rigorous_bytecode/rigorousbytecode/text/TextScanner$IntegerLiteral" "magnitude" "J" (.long q2) := F_19.other W24 (Or.inr (slot_ne (Or.inr (hw _ (List.mem_of_getElem? (i := 25) rfl))) (Or.inr (hw _ (List.mem_of_getElem? (i := 27) rfl))) (by decide) (t := .long) (t' := .int) (by decide) (by decide)))
  have F_28 : Fld Z h24 a1 "com/example/rigorous_bytecode/rigorousbytecode/text/TextScanner$IntegerLiteral" "suffixWidth" "I" (.int p3) := F_20.same W24
  have F_29 : Fld Z h24 a1 "com/example/rigorous_bytecode/rigorousbytecode/text/TextScanner$IntegerLiteral" "spelling" "Ljava/lang/String;" u4 := F_21.other W24 (Or.inr (slot_ne (Or.inr (hw _ (List.mem_of_getElem? (i := 29) rfl))) (Or.inr (hw _ (List.mem_of_getElem? (i := 27) rfl))) (by decide) (t := (.object "java/lang/String")) (t' := .int) (by decide) (by decide)))
  have R30 : ∀ t, Steps p.tables e below (T24.setTop (mkF m 20 #[.val (.ref a1), .val (.int p1), .val (.long q2), .second, .val (.int p3), .val (.ref a4)] [])) t → Steps p.tables e below (s₁.setTop (mkF m 0 #[.val (.ref a1), .val (.int p1), .val (.long q2), .second, .val (.int p3), .val (.ref a4)] [])) t := fun t k => R23 t (st24 _ k)
  have R31 : ∀ t, Steps p.tables e below (T24.setTop (mkF m 23 #[.val (.ref a1), .val (.int p1), .val (.long q2), .second, .val (.int p3), .val (.ref a4)] [(.ref a4), (.ref a1)])) t → Steps p.tables e below (s₁.setTop (mkF m 0 #[.val (.ref a1), .val (.int p1), .val (.long q2), .second, .val (.int p3), .val (.ref a4)] [])) t := by
    intro t k
    refine R30 t ?_
    refine XS.aloadN X24.here hx rfl (hb hby d1_20) rfl rfl ?_
    refine XS.aload X24.here hx rfl (hb hby d1_21) rfl rfl ?_
    exact k
  obtain ⟨T32, h32, X32, e32, W32, st32⟩ := putF X24 hx hZ hown (host := "") (Or.inl (hw _ (List.mem_of_getElem? (i := 28) rfl))) Via.refl e24 F_29 E_25 (Or.inr ⟨(hw _ (List.mem_of_getElem? (i := 29) rfl)), rfl, hnm⟩) (hw _ (List.mem_of_getElem? (i := 1) rfl)) (ty := (.object "java/lang/String")) (by decide) rfl rfl (g := (mkF m 23 #[.val (.ref a1), .val (.int p1), .val (.long q2), .second, .val (.int p3), .val (.ref a4)] [(.ref a4), (.ref a1)])) rfl rfl (hb hby d1_23)
  have N32 := Fr.snoc X32 N24 n_a1
  have Z32 : n0 ≤ h32.size := Nat.le_trans Z24 (Keep.of_wr W32).1
  have K32 : Keep h0 h32 [a1] := K24.wr W32 (Or.inl (List.mem_of_getElem? (i := 0) rfl))
  have E_33 : Exa Z h32 a1 "com/example/rigorous_bytecode/rigorousbytecode/text/TextScanner$IntegerLiteral" := E_25.wr W32
  have F_34 : Fld Z h32 a1 "com/example/rigorous_bytecode/rigorousbytecode/text/TextScanner$IntegerLiteral" "negative" "Z" (.int p1) := F_26.other W32 (Or.inr (slot_ne (Or.inr (hw _ (List.mem_of_getElem? (i := 23) rfl))) (Or.inr (hw _ (List.mem_of_getElem? (i := 29) rfl))) (by decide) (t := .boolean) (t' := (.object "java/lang/String")) (by decide) (by decide)))
  have F_35 : Fld Z h32 a1 "com/example/rigorous_bytecode/rigorousbytecode/text/TextScanner$IntegerLiteral" "magnitude" "J" (.long q2) := F_27.other W32 (Or.inr (slot_ne (Or.inr (hw _ (List.mem_of_getElem? (i := 25) rfl))) (Or.inr (hw _ (List.mem_of_getElem? (i := 29) rfl))) (by decide) (t := .long) (t' := (.object "java/lang/String")) (by decide) (by decide)))
  have F_36 : Fld Z h32 a1 "com/example/rigorous_bytecode/rigorousbytecode/text/TextScanner$IntegerLiteral" "suffixWidth" "I" (.int p3) := F_28.other W32 (Or.inr (slot_ne (Or.inr (hw _ (List.mem_of_getElem? (i := 27) rfl))) (Or.inr (hw _ (List.mem_of_getElem? (i := 29) rfl))) (by decide) (t := .int) (t' := (.object "java/lang/String")) (by decide) (by decide)))
  have F_37 : Fld Z h32 a1 "com/example/rigorous_bytecode/rigorousbytecode/text/TextScanner$IntegerLiteral" "spelling" "Ljava/lang/String;" (.ref a4) := F_29.same W32
  have R38 : ∀ t, Steps p.tables e below (T32.setTop (mkF m 26 #[.val (.ref a1), .val (.int p1), .val (.long q2), .second, .val (.int p3), .val (.ref a4)] [])) t → Steps p.tables e below (s₁.setTop (mkF m 0 #[.val (.ref a1), .val (.int p1), .val (.long q2), .second, .val (.int p3), .val (.ref a4)] [])) t := fun t k => R31 t (st32 _ k)
  obtain ⟨fs, hr, hrun, hended, hW, hsame⟩ := X32.leave (v := none) (fun _ => rfl)
  refine ⟨_, _, pre0 _ (R38 _ (X32.returnOut hx Bd.returns (hb hby d1_26) hr)), hrun, hended, _, _, rfl, ?_, ⟨_, rfl⟩, hW, hsame.mono (by decide) (by decide)⟩
  show Q_rm1 Z a1 p1 q2 p3 a4 u1 u2 u3 u4 h0 n0 _ T32.heap _
  rw [e32]
  exact ⟨rfl, N32, K32, F_34, F_35⟩
theorem d4_0 : decode prog_142_method_3_code 0 = .ok (.aload_n 0, 1) := by decide +kernel
theorem d4_1 : decode prog_142_method_3_code 1 = .ok (.getfield 7, 3) := by decide +kernel
theorem d4_4 : decode prog_142_method_3_code 4 = .ok (.ifCond .eq 11, 3) := by decide +kernel
theorem d4_7 : decode prog_142_method_3_code 7 = .ok (.aload_n 0, 1) := by decide +kernel
theorem d4_8 : decode prog_142_method_3_code 8 = .ok (.getfield 13, 3) := by decide +kernel
theorem d4_11 : decode prog_142_method_3_code 11 = .ok (.lneg, 1) := by decide +kernel
theorem d4_12 : decode prog_142_method_3_code 12 = .ok (.goto 7, 3) := by decide +kernel
theorem d4_15 : decode prog_142_method_3_code 15 = .ok (.aload_n 0, 1) := by decide +kernel
theorem d4_16 : decode prog_142_method_3_code 16 = .ok (.getfield 13, 3) := by decide +kernel
theorem d4_19 : decode prog_142_method_3_code 19 = .ok (.lstore_n 2, 1) := by decide +kernel
theorem d4_20 : decode prog_142_method_3_code 20 = .ok (.lload_n 2, 1) := by decide +kernel
theorem d4_21 : decode prog_142_method_3_code 21 = .ok (.bipush 64, 2) := by decide +kernel
theorem d4_23 : decode prog_142_method_3_code 23 = .ok (.iload_n 1, 1) := by decide +kernel
theorem d4_24 : decode prog_142_method_3_code 24 = .ok (.isub, 1) := by decide +kernel
theorem d4_25 : decode prog_142_method_3_code 25 = .ok (.lshl, 1) := by decide +kernel
theorem d4_26 : decode prog_142_method_3_code 26 = .ok (.bipush 64, 2) := by decide +kernel
theorem d4_28 : decode prog_142_method_3_code 28 = .ok (.iload_n 1, 1) := by decide +kernel
theorem d4_29 : decode prog_142_method_3_code 29 = .ok (.isub, 1) := by decide +kernel
theorem d4_30 : decode prog_142_method_3_code 30 = .ok (.lshr, 1) := by decide +kernel
theorem d4_31 : decode prog_142_method_3_code 31 = .ok (.lreturn, 1) := by decide +kernel
theorem ef_rm4 (m : MethodId) (x0 : Addr) (x1 : Int32) : entryFrame m #[(.ref x0), (.int x1)] 4 = mkF m 0 #[.val (.ref x0), .val (.int x1), .unset, .unset] [] := by first | (simp [entryFrame, mkF, argsToLocals, Value.category]; done) | rfl
def Q_rm4 (Z : State) (a1 : Addr) (p1 : Int32) (w1 : Int32) (w2 : Int64) (h0 : Heap) (n0 : Nat) (v : Option Value) (h : Heap) (L : List Loc) : Prop := v = some (.long (own_val w1 w2 p1)) ∧ Fr n0 L ∧ h = h0
set_option maxRecDepth 65536 in
set_option maxHeartbeats 40000000 in
theorem rm4 (l : Launch) (Z : State) (a0 : Array Value) (hw : ∀ d ∈ tables_1, d.before a0 Z = true) (ws : List Jvm.Cond) (a1 : Addr) (p1 : Int32) (w1 : Int32) (w2 : Int64) (h0 : Heap) (n0 : Nat) (Z0 : n0 ≤ h0.size) (F_01 : Fld Z h0 a1 "com/example/rigorous_bytecode/rigorousbytecode/text/TextScanner$IntegerLiteral" "negative" "Z" (.int w1)) (F_02 : Fld Z h0 a1 "com/example/rigorous_bytecode/rigorousbytecode/text/TextScanner$IntegerLiteral" "magnitude" "J" (.long w2)) :
    MetFree l (⟨"com/example/rigorous_bytecode/rigorousbytecode/text/TextScanner$IntegerLiteral", "value", "(I)J"⟩ : MethodName) (head1 (Jvm.Cond.code (⟨"com/example/rigorous_bytecode/rigorousbytecode/text/TextScanner$IntegerLiteral", "value", "(I)J"⟩ : MethodName) prog_142_method_3_code 4 (some .long) :: ws) ({ frames := 0, cells := 0, slots := 0, locals := 0 } : Room)) (fun a U => a = #[(.ref a1), (.int p1)] ∧ Z.Warmed39 U.vm ∧ U.heap = h0) (fun _ _ _ _ _ => True) (fun _ U o U' => ∃ v L, o = .returned v ∧ Q_rm4 Z a1 p1 w1 w2 h0 n0 v U'.heap L ∧ FrameEnd U o U' L ({ frames := 0, cells := 0, slots := 0, locals := 0 } : Room).cells ({ frames := 0, cells := 0, slots := 0, locals := 0 } : Room).slots) := by
  refine MetFree.of_bodySF (plainFor_of_name pn_1) hisR ?_
  intro p e s m args below meth c s₁ Bd hml0 hP hK
  obtain ⟨rfl, hZ, hh⟩ := hP
  have hx := Bd.exec
  have hby := Bd.bytes
  have hml : c.maxLocals = 4 := hml0
  have hown : s.vm.findClass "com/example/rigorous_bytecode/rigorousbytecode/text/TextScanner$IntegerLiteral" = some m.cls := findClass_of_methodNamed Bd.named
  have hnm := (name_of_methodNamed Bd.named Bd.method).1
  have X0 : Stand p l e ({ frames := 0, cells := 0, slots := 0, locals := 0 } : Room) s m #[(.ref a1), (.int p1)] below meth c s₁ [] 0 0 := Stand.of_body Bd
  have e0 : s₁.heap = h0 := by rw [← hh, Bd.state]; rfl
  have N0 := Fr.nil n0
  have pre0 : ∀ t, Steps p.tables e below (s₁.setTop (mkF m 0 #[.val (.ref a1), .val (.int p1), .unset, .unset] [])) t → Steps p.tables e below (s₁.setTop (entryFrame m #[(.ref a1), (.int p1)] 4)) t := fun t k => castTop (ef_rm4 m a1 p1) k
  have R0 : ∀ t, Steps p.tables e below (s₁.setTop (mkF m 0 #[.val (.ref a1), .val (.int p1), .unset, .unset] [])) t → Steps p.tables e below (s₁.setTop (mkF m 0 #[.val (.ref a1), .val (.int p1), .unset, .unset] [])) t := fun _ k => k
  have R39 : ∀ t, Steps p.tables e below (s₁.setTop (mkF m 1 #[.val (.ref a1), .val (.int p1), .unset, .unset] [(.ref a1)])) t → Steps p.tables e below (s₁.setTop (mkF m 0 #[.val (.ref a1), .val (.int p1), .unset, .unset] [])) t := by
    intro t k
    refine R0 t ?_
    refine XS.aloadN X0.here hx rfl (hb hby d4_0) rfl rfl ?_
    exact k
  obtain ⟨T40, X40, e40, st40⟩ := getF X0 hx hZ hown (host := "") (Or.inl (hw _ (List.mem_of_getElem? (i := 22) rfl))) Via.refl e0 F_01 (g := (mkF m 1 #[.val (.ref a1), .val (.int p1), .unset, .unset] [(.ref a1)])) rfl rfl (hb hby d4_1)
  have R41 : ∀ t, Steps p.tables e below (T40.setTop (mkF m 4 #[.val (.ref a1), .val (.int p1), .unset, .unset] [(.int w1)])) t → Steps p.tables e below (s₁.setTop (mkF m 0 #[.val (.ref a1), .val (.int p1), .unset, .unset] [])) t := fun t k => R39 t (st40 _ k)
  obtain ⟨T42, L42, X42, N42, e42, R42⟩ : ∃ (T' : State) (L' : List Loc), Stand p l e ({ frames := 0, cells := 0, slots := 0, locals := 0 } : Room) s m #[(.ref a1), (.int p1)] below meth c T' L' 0 0 ∧ Fr n0 L' ∧ T'.heap = h0 ∧ (∀ t, Steps p.tables e below (T'.setTop (mkF m 19 #[.val (.ref a1), .val (.int p1), .unset, .unset] [(.long (own_sg w1 w2))])) t → Steps p.tables e below (s₁.setTop (mkF m 0 #[.val (.ref a1), .val (.int p1), .unset, .unset] [])) t) := by
    by_cases hc : w1 = (0 : Int32)
    · have R43 : ∀ t, Steps p.tables e below (T40.setTop (mkF m 15 #[.val (.ref a1), .val (.int p1), .unset, .unset] [])) t → Steps p.tables e below (s₁.setTop (mkF m 0 #[.val (.ref a1), .val (.int p1), .unset, .unset] [])) t := by
        intro t k
        refine R41 t ?_
        refine XS.ifYes X40.here hx rfl (pc0 := 4) (pc' := 15) rfl (hb hby d4_4) rfl ((if0 _ _).trans (teq hc).1) (by decide) (by decide) ?_
        exact k
      have R44 : ∀ t, Steps p.tables e below (T40.setTop (mkF m 16 #[.val (.ref a1), .val (.int p1), .unset, .unset] [(.ref a1)])) t → Steps p.tables e below (s₁.setTop (mkF m 0 #[.val (.ref a1), .val (.int p1), .unset, .unset] [])) t := by
        intro t k
        refine R43 t ?_
        refine XS.aloadN X40.here hx rfl (hb hby d4_15) rfl rfl ?_
        exact k
      obtain ⟨T45, X45, e45, st45⟩ := getF X40 hx hZ hown (host := "") (Or.inl (hw _ (List.mem_of_getElem? (i := 24) rfl))) Via.refl e40 F_02 (g := (mkF m 16 #[.val (.ref a1), .val (.int p1), .unset, .unset] [(.ref a1)])) rfl rfl (hb hby d4_16)
      have R46 : ∀ t, Steps p.tables e below (T45.setTop (mkF m 19 #[.val (.ref a1), .val (.int p1), .unset, .unset] [(.long w2)])) t → Steps p.tables e below (s₁.setTop (mkF m 0 #[.val (.ref a1), .val (.int p1), .unset, .unset] [])) t := fun t k => R44 t (st45 _ k)
      rw [show (own_sg w1 w2) = w2 from if_pos hc]
      exact ⟨_, _, X45, N0, e45, R46⟩
    · have R47 : ∀ t, Steps p.tables e below (T40.setTop (mkF m 7 #[.val (.ref a1), .val (.int p1), .unset, .unset] [])) t → Steps p.tables e below (s₁.setTop (mkF m 0 #[.val (.ref a1), .val (.int p1), .unset, .unset] [])) t := by
        intro t k
        refine R41 t ?_
        refine XS.ifNo X40.here hx rfl (hb hby d4_4) rfl ((if0 _ _).trans (feq hc).1) ?_
        exact k
      have R48 : ∀ t, Steps p.tables e below (T40.setTop (mkF m 8 #[.val (.ref a1), .val (.int p1), .unset, .unset] [(.ref a1)])) t → Steps p.tables e below (s₁.setTop (mkF m 0 #[.val (.ref a1), .val (.int p1), .unset, .unset] [])) t := by
        intro t k
        refine R47 t ?_
        refine XS.aloadN X40.here hx rfl (hb hby d4_7) rfl rfl ?_
        exact k
      obtain ⟨T49, X49, e49, st49⟩ := getF X40 hx hZ hown (host := "") (Or.inl (hw _ (List.mem_of_getElem? (i := 24) rfl))) Via.refl e40 F_02 (g := (mkF m 8 #[.val (.ref a1), .val (.int p1), .unset, .unset] [(.ref a1)])) rfl rfl (hb hby d4_8)
      have R50 : ∀ t, Steps p.tables e below (T49.setTop (mkF m 11 #[.val (.ref a1), .val (.int p1), .unset, .unset] [(.long w2)])) t → Steps p.tables e below (s₁.setTop (mkF m 0 #[.val (.ref a1), .val (.int p1), .unset, .unset] [])) t := fun t k => R48 t (st49 _ k)
      have R51 : ∀ t, Steps p.tables e below (T49.setTop (mkF m 19 #[.val (.ref a1), .val (.int p1), .unset, .unset] [(.long ((-w2)))])) t → Steps p.tables e below (s₁.setTop (mkF m 0 #[.val (.ref a1), .val (.int p1), .unset, .unset] [])) t := by
        intro t k
        refine R50 t ?_
        refine XS.lneg X49.here hx rfl (hb hby d4_11) rfl ?_
        refine XS.goto X49.here hx rfl (pc0 := 12) (pc' := 19) rfl (hb hby d4_12) (by decide) (by decide) ?_
        exact k
      rw [show (own_sg w1 w2) = -w2 from if_neg hc]
      exact ⟨_, _, X49, N0, e49, R51⟩
  have R52 : ∀ t, Steps p.tables e below (T42.setTop (mkF m 31 #[.val (.ref a1), .val (.int p1), .val (.long (own_sg w1 w2)), .second] [(.long (own_val w1 w2 p1))])) t → Steps p.tables e below (s₁.setTop (mkF m 0 #[.val (.ref a1), .val (.int p1), .unset, .unset] [])) t := by
    intro t k
    refine R42 t ?_
    refine XS.lstoreN X42.here hx rfl (hb hby d4_19) rfl (l' := #[.val (.ref a1), .val (.int p1), .val (.long (own_sg w1 w2)), .second]) rfl ?_
    refine XS.lloadN X42.here hx rfl (hb hby d4_20) rfl ?_
    refine XS.bipush X42.here hx rfl (hb hby d4_21) ?_
    refine XS.iloadN X42.here hx rfl (hb hby d4_23) rfl ?_
    refine XS.isub X42.here hx rfl (hb hby d4_24) rfl ?_
    refine XS.lshl X42.here hx rfl (hb hby d4_25) rfl ?_
    refine XS.bipush X42.here hx rfl (hb hby d4_26) ?_
    refine XS.iloadN X42.here hx rfl (hb hby d4_28) rfl ?_
    refine XS.isub X42.here hx rfl (hb hby d4_29) rfl ?_
    refine XS.lshr X42.here hx rfl (hb hby d4_30) rfl ?_
    exact k
  obtain ⟨fs, hr, hrun, hended, hW, hsame⟩ := X42.leave (v := some (.long (own_val w1 w2 p1))) (fun h => by rw [Bd.returns] at h; cases h)
  refine ⟨_, _, pre0 _ (R52 _ (retOut X42 hx (t := .long) Bd.returns rfl (Or.inr (Or.inl ⟨rfl, rfl, _, rfl⟩)) (hb hby d4_31) hr)), hrun, hended, _, _, rfl, ?_, ⟨_, rfl⟩, hW, hsame.mono (by decide) (by decide)⟩
  show Q_rm4 Z a1 p1 w1 w2 h0 n0 _ T42.heap _
  rw [e42]
  exact ⟨rfl, N42, rfl⟩
theorem own_wS {Z : State} {a0 : Array Value} (hw : ∀ d ∈ tables_1, d.before a0 Z = true) : ∀ a ∈ Bundle.stringAtoms, a.before a0 Z = true := by
  intro d hd
  simp only [Bundle.stringAtoms, List.mem_cons, List.not_mem_nil, or_false] at hd
  rcases hd with rfl | rfl | rfl | rfl | rfl | rfl | rfl
  · exact hw _ (List.mem_of_getElem? (i := 4) rfl)
  · exact hw _ (List.mem_of_getElem? (i := 5) rfl)
  · exact hw _ (List.mem_of_getElem? (i := 6) rfl)
  · exact hw _ (List.mem_of_getElem? (i := 7) rfl)
  · exact hw _ (List.mem_of_getElem? (i := 8) rfl)
  · exact hw _ (List.mem_of_getElem? (i := 9) rfl)
  · exact hw _ (List.mem_of_getElem? (i := 10) rfl)
theorem pn_2 : plainName "com/example/rigorous_bytecode/rigorousbytecode/text/IntegerLiteralValuePinLaw" = true := by first | (simp [plainName, overriddenIn]; done) | decide +kernel
theorem pd_1 : parseMethodDescriptor "(ZJILjava/lang/String;)V" = some ⟨[.boolean, .long, .int, (.object "java/lang/String")], none⟩ := by decide +kernel
theorem pd_2 : parseMethodDescriptor "(I)J" = some ⟨[.int], some .long⟩ := by decide +kernel
theorem ef_rm0 (m : MethodId) (x0 : Int32) (x1 : Int32) (x2 : Int64) : entryFrame m #[(.int x0), (.int x1), (.long x2)] maxLocals = mkF m 0 #[.val (.int x0), .val (.int x1), .val (.long x2), .second, .unset, .unset, .unset, .unset, .unset, .unset, .unset, .unset, .unset, .unset, .unset, .unset] [] := by first | (simp [entryFrame, mkF, argsToLocals, Value.category, maxLocals]; done) | rfl
def Q_rm0 (Z : State) (p1 : Int32) (p2 : Int32) (q3 : Int64)  (h0 : Heap) (n0 : Nat) (v : Option Value) (h : Heap) (L : List Loc) : Prop := v = some (.int (1 : Int32)) ∧ Fr n0 L
set_option maxRecDepth 65536 in
set_option maxHeartbeats 40000000 in
theorem rm0 (l : Launch) (Z : State) (a0 : Array Value) (hw : ∀ d ∈ tables_1, d.before a0 Z = true) (ws : List Jvm.Cond) (p1 : Int32) (p2 : Int32) (q3 : Int64)  (h0 : Heap) (n0 : Nat) (Z0 : n0 ≤ h0.size)  :
    MetFree l x (head1 (Jvm.Cond.code x code maxLocals ret :: ws) room_1) (fun a U => a = #[(.int p1), (.int p2), (.long q3)] ∧ Z.Warmed39 U.vm ∧ U.heap = h0) (fun _ _ _ _ _ => True) (fun _ U o U' => ∃ v L, o = .returned v ∧ Q_rm0 Z p1 p2 q3  h0 n0 v U'.heap L ∧ ReturnedEndW U o U' L room_1.cells room_1.slots) := by
  refine MetFree.of_bodySF (plainFor_of_name pn_2) hisR ?_
  intro p e s m args below meth c s₁ Bd hml0 hP hK
  obtain ⟨rfl, hZ, hh⟩ := hP
  have hx := Bd.exec
  have hby := Bd.bytes
  have hml : c.maxLocals = 16 := hml0
  have hown : s.vm.findClass "com/example/rigorous_bytecode/rigorousbytecode/text/IntegerLiteralValuePinLaw" = some m.cls := findClass_of_methodNamed Bd.named
  have hnm := (name_of_methodNamed Bd.named Bd.method).1
  have X0 : Stand p l e room_1 s m #[(.int p1), (.int p2), (.long q3)] below meth c s₁ [] 0 0 := Stand.of_body Bd
  have e0 : s₁.heap = h0 := by rw [← hh, Bd.state]; rfl
  have N0 := Fr.nil n0
  have pre0 : ∀ t, Steps p.tables e below (s₁.setTop (mkF m 0 #[.val (.int p1), .val (.int p2), .val (.long q3), .second, .unset, .unset, .unset, .unset, .unset, .unset, .unset, .unset, .unset, .unset, .unset, .unset] [])) t → Steps p.tables e below (s₁.setTop (entryFrame m #[(.int p1), (.int p2), (.long q3)] maxLocals)) t := fun t k => castTop (ef_rm0 m p1 p2 q3) k
  have R0 : ∀ t, Steps p.tables e below (s₁.setTop (mkF m 0 #[.val (.int p1), .val (.int p2), .val (.long q3), .second, .unset, .unset, .unset, .unset, .unset, .unset, .unset, .unset, .unset, .unset, .unset, .unset] [])) t → Steps p.tables e below (s₁.setTop (mkF m 0 #[.val (.int p1), .val (.int p2), .val (.long q3), .second, .unset, .unset, .unset, .unset, .unset, .unset, .unset, .unset, .unset, .unset, .unset, .unset] [])) t := fun _ k => k
  have R53 : ∀ t, Steps p.tables e below (s₁.setTop (mkF m 3 #[.val (.int p1), .val (.int p2), .val (.long q3), .second, .unset, .unset, .unset, .unset, .unset, .unset, .unset, .unset, .unset, .unset, .unset, .unset] [(.int (p1 &&& (1 : Int32)))])) t → Steps p.tables e below (s₁.setTop (mkF m 0 #[.val (.int p1), .val (.int p2), .val (.long q3), .second, .unset, .unset, .unset, .unset, .unset, .unset, .unset, .unset, .unset, .unset, .unset, .unset] [])) t := by
    intro t k
    refine R0 t ?_
    refine XS.iloadN X0.here hx rfl (hb hby at_0) rfl ?_
    refine XS.iconst X0.here hx rfl (hb hby at_1) ?_
    refine XS.iand X0.here hx rfl (hb hby at_2) rfl ?_
    exact k
  by_cases hc : (p1 &&& (1 : Int32)) = (0 : Int32)
  · have R54 : ∀ t, Steps p.tables e below (s₁.setTop (mkF m 10 #[.val (.int p1), .val (.int p2), .val (.long q3), .second, .unset, .unset, .unset, .unset, .unset, .unset, .unset, .unset, .unset, .unset, .unset, .unset] [])) t → Steps p.tables e below (s₁.setTop (mkF m 0 #[.val (.int p1), .val (.int p2), .val (.long q3), .second, .unset, .unset, .unset, .unset, .unset, .unset, .unset, .unset, .unset, .unset, .unset, .unset] [])) t := by
      intro t k
      refine R53 t ?_
      refine XS.ifYes X0.here hx rfl (pc0 := 3) (pc' := 10) rfl (hb hby at_3) rfl ((if0 _ _).trans (teq hc).1) (by decide) (by decide) ?_
      exact k
    have R55 : ∀ t, Steps p.tables e below (s₁.setTop (mkF m 16 #[.val (.int p1), .val (.int p2), .val (.long q3), .second, .val (.int (0 : Int32)), .unset, .unset, .unset, .unset, .unset, .unset, .unset, .unset, .unset, .unset, .unset] [(.int (p1 &&& (2 : Int32)))])) t → Steps p.tables e below (s₁.setTop (mkF m 0 #[.val (.int p1), .val (.int p2), .val (.long q3), .second, .unset, .unset, .unset, .unset, .unset, .unset, .unset, .unset, .unset, .unset, .unset, .unset] [])) t := by
      intro t k
      refine R54 t ?_
      refine XS.iconst X0.here hx rfl (hb hby at_10) ?_
      refine XS.istore X0.here hx rfl (hb hby at_11) rfl (l' := #[.val (.int p1), .val (.int p2), .val (.long q3), .second, .val (.int (0 : Int32)), .unset, .unset, .unset, .unset, .unset, .unset, .unset, .unset, .unset, .unset, .unset]) rfl ?_
      refine XS.iloadN X0.here hx rfl (hb hby at_13) rfl ?_
      refine XS.iconst X0.here hx rfl (hb hby at_14) ?_
      refine XS.iand X0.here hx rfl (hb hby at_15) rfl ?_
      exact k
    have R56 : ∀ t, Steps p.tables e below (s₁.setTop (mkF m 26 #[.val (.int p1), .val (.int p2), .val (.long q3), .second, .val (.int (0 : Int32)), .val (.int (own_fl (p1 &&& (2 : Int32)))), .unset, .unset, .unset, .unset, .unset, .unset, .unset, .unset, .unset, .unset] [])) t → Steps p.tables e below (s₁.setTop (mkF m 0 #[.val (.int p1), .val (.int p2), .val (.long q3), .second, .unset, .unset, .unset, .unset, .unset, .unset, .unset, .unset, .unset, .unset, .unset, .unset] [])) t := by
      intro t k
      by_cases hd : (p1 &&& (2 : Int32)) = (0 : Int32)
      · rw [show own_fl (p1 &&& (2 : Int32)) = 0 from if_pos hd] at k
        have R57 : ∀ t, Steps p.tables e below (s₁.setTop (mkF m 23 #[.val (.int p1), .val (.int p2), .val (.long q3), .second, .val (.int (0 : Int32)), .unset, .unset, .unset, .unset, .unset, .unset, .unset, .unset, .unset, .unset, .unset] [])) t → Steps p.tables e below (s₁.setTop (mkF m 0 #[.val (.int p1), .val (.int p2), .val (.long q3), .second, .unset, .unset, .unset, .unset, .unset, .unset, .unset, .unset, .unset, .unset, .unset, .unset] [])) t := by
          intro t k
          refine R55 t ?_
          refine XS.ifYes X0.here hx rfl (pc0 := 16) (pc' := 23) rfl (hb hby at_16) rfl ((if0 _ _).trans (teq hd).1) (by decide) (by decide) ?_
          exact k
        have R58 : ∀ t, Steps p.tables e below (s₁.setTop (mkF m 26 #[.val (.int p1), .val (.int p2), .val (.long q3), .second, .val (.int (0 : Int32)), .val (.int (0 : Int32)), .unset, .unset, .unset, .unset, .unset, .unset, .unset, .unset, .unset, .unset] [])) t → Steps p.tables e below (s₁.setTop (mkF m 0 #[.val (.int p1), .val (.int p2), .val (.long q3), .second, .unset, .unset, .unset, .unset, .unset, .unset, .unset, .unset, .unset, .unset, .unset, .unset] [])) t := by
          intro t k
          refine R57 t ?_
          refine XS.iconst X0.here hx rfl (hb hby at_23) ?_
          refine XS.istore X0.here hx rfl (hb hby at_24) rfl (l' := #[.val (.int p1), .val (.int p2), .val (.long q3), .second, .val (.int (0 : Int32)), .val (.int (0 : Int32)), .unset, .unset, .unset, .unset, .unset, .unset, .unset, .unset, .unset, .unset]) rfl ?_
          exact k
        exact R58 t k
      · rw [show own_fl (p1 &&& (2 : Int32)) = 1 from if_neg hd] at k
        have R59 : ∀ t, Steps p.tables e below (s₁.setTop (mkF m 19 #[.val (.int p1), .val (.int p2), .val (.long q3), .second, .val (.int (0 : Int32)), .unset, .unset, .unset, .unset, .unset, .unset, .unset, .unset, .unset, .unset, .unset] [])) t → Steps p.tables e below (s₁.setTop (mkF m 0 #[.val (.int p1), .val (.int p2), .val (.long q3), .second, .unset, .unset, .unset, .unset, .unset, .unset, .unset, .unset, .unset, .unset, .unset, .unset] [])) t := by
          intro t k
          refine R55 t ?_
          refine XS.ifNo X0.here hx rfl (hb hby at_16) rfl ((if0 _ _).trans (feq hd).1) ?_
          exact k
        have R60 : ∀ t, Steps p.tables e below (s₁.setTop (mkF m 26 #[.val (.int p1), .val (.int p2), .val (.long q3), .second, .val (.int (0 : Int32)), .val (.int (1 : Int32)), .unset, .unset, .unset, .unset, .unset, .unset, .unset, .unset, .unset, .unset] [])) t → Steps p.tables e below (s₁.setTop (mkF m 0 #[.val (.int p1), .val (.int p2), .val (.long q3), .second, .unset, .unset, .unset, .unset, .unset, .unset, .unset, .unset, .unset, .unset, .unset, .unset] [])) t := by
          intro t k
          refine R59 t ?_
          refine XS.iconst X0.here hx rfl (hb hby at_19) ?_
          refine XS.goto X0.here hx rfl (pc0 := 20) (pc' := 24) rfl (hb hby at_20) (by decide) (by decide) ?_
          refine XS.istore X0.here hx rfl (hb hby at_24) rfl (l' := #[.val (.int p1), .val (.int p2), .val (.long q3), .second, .val (.int (0 : Int32)), .val (.int (1 : Int32)), .unset, .unset, .unset, .unset, .unset, .unset, .unset, .unset, .unset, .unset]) rfl ?_
          exact k
        exact R60 t k
    have R61 : ∀ t, Steps p.tables e below (s₁.setTop (mkF m 36 #[.val (.int p1), .val (.int p2), .val (.long q3), .second, .val (.int (0 : Int32)), .val (.int (own_fl (p1 &&& (2 : Int32)))), .val (.int ((1 : Int32) + (p2 &&& (63 : Int32)))), .unset, .unset, .unset, .unset, .unset, .unset, .unset, .unset, .unset] [(.int (0 : Int32))])) t → Steps p.tables e below (s₁.setTop (mkF m 0 #[.val (.int p1), .val (.int p2), .val (.long q3), .second, .unset, .unset, .unset, .unset, .unset, .unset, .unset, .unset, .unset, .unset, .unset, .unset] [])) t := by
      intro t k
      refine R56 t ?_
      refine XS.iconst X0.here hx rfl (hb hby at_26) ?_
      refine XS.iloadN X0.here hx rfl (hb hby at_27) rfl ?_
      refine XS.bipush X0.here hx rfl (hb hby at_28) ?_
      refine XS.iand X0.here hx rfl (hb hby at_30) rfl ?_
      refine XS.iadd X0.here hx rfl (hb hby at_31) rfl ?_
      refine XS.istore X0.here hx rfl (hb hby at_32) rfl (l' := #[.val (.int p1), .val (.int p2), .val (.long q3), .second, .val (.int (0 : Int32)), .val (.int (own_fl (p1 &&& (2 : Int32)))), .val (.int ((1 : Int32) + (p2 &&& (63 : Int32)))), .unset, .unset, .unset, .unset, .unset, .unset, .unset, .unset, .unset]) rfl ?_
      refine XS.iload X0.here hx rfl (hb hby at_34) rfl ?_
      exact k
    have R62 : ∀ t, Steps p.tables e below (s₁.setTop (mkF m 68 #[.val (.int p1), .val (.int p2), .val (.long q3), .second, .val (.int (0 : Int32)), .val (.int (own_fl (p1 &&& (2 : Int32)))), .val (.int ((1 : Int32) + (p2 &&& (63 : Int32)))), .unset, .unset, .unset, .unset, .unset, .unset, .unset, .unset, .unset] [])) t → Steps p.tables e below (s₁.setTop (mkF m 0 #[.val (.int p1), .val (.int p2), .val (.long q3), .second, .unset, .unset, .unset, .unset, .unset, .unset, .unset, .unset, .unset, .unset, .unset, .unset] [])) t := by
      intro t k
      refine R61 t ?_
      refine XS.ifYes X0.here hx rfl (pc0 := 36) (pc' := 68) rfl (hb hby at_36) rfl ((if0 _ _).trans (teq rfl).1) (by decide) (by decide) ?_
      exact k
    have R63 : ∀ t, Steps p.tables e below (s₁.setTop (mkF m 72 #[.val (.int p1), .val (.int p2), .val (.long q3), .second, .val (.int (0 : Int32)), .val (.int (own_fl (p1 &&& (2 : Int32)))), .val (.int ((1 : Int32) + (p2 &&& (63 : Int32)))), .unset, .unset, .unset, .unset, .unset, .unset, .unset, .unset, .unset] [(.int (64 : Int32)), (.int ((1 : Int32) + (p2 &&& (63 : Int32))))])) t → Steps p.tables e below (s₁.setTop (mkF m 0 #[.val (.int p1), .val (.int p2), .val (.long q3), .second, .unset, .unset, .unset, .unset, .unset, .unset, .unset, .unset, .unset, .unset, .unset, .unset] [])) t := by
      intro t k
      refine R62 t ?_
      refine XS.iload X0.here hx rfl (hb hby at_68) rfl ?_
      refine XS.bipush X0.here hx rfl (hb hby at_70) ?_
      exact k
    have R64 : ∀ t, Steps p.tables e below (s₁.setTop (mkF m 87 #[.val (.int p1), .val (.int p2), .val (.long q3), .second, .val (.int (0 : Int32)), .val (.int (own_fl (p1 &&& (2 : Int32)))), .val (.int ((1 : Int32) + (p2 &&& (63 : Int32)))), .unset, .unset, .unset, .unset, .unset, .unset, .unset, .unset, .unset] [(.long (own_pm ((1 : Int32) + (p2 &&& (63 : Int32))) q3))])) t → Steps p.tables e below (s₁.setTop (mkF m 0 #[.val (.int p1), .val (.int p2), .val (.long q3), .second, .unset, .unset, .unset, .unset, .unset, .unset, .unset, .unset, .unset, .unset, .unset, .unset] [])) t := by
      intro t k
      by_cases hd : ((1 : Int32) + (p2 &&& (63 : Int32))) = (64 : Int32)
      · rw [show (own_pm ((1 : Int32) + (p2 &&& (63 : Int32))) q3) = q3 from if_pos hd] at k
        have R65 : ∀ t, Steps p.tables e below (s₁.setTop (mkF m 75 #[.val (.int p1), .val (.int p2), .val (.long q3), .second, .val (.int (0 : Int32)), .val (.int (own_fl (p1 &&& (2 : Int32)))), .val (.int ((1 : Int32) + (p2 &&& (63 : Int32)))), .unset, .unset, .unset, .unset, .unset, .unset, .unset, .unset, .unset] [])) t → Steps p.tables e below (s₁.setTop (mkF m 0 #[.val (.int p1), .val (.int p2), .val (.long q3), .second, .unset, .unset, .unset, .unset, .unset, .unset, .unset, .unset, .unset, .unset, .unset, .unset] [])) t := by
          intro t k
          refine R63 t ?_
          refine XS.icmpNo X0.here hx rfl (hb hby at_72) rfl (teq hd).2 ?_
          exact k
        have R66 : ∀ t, Steps p.tables e below (s₁.setTop (mkF m 87 #[.val (.int p1), .val (.int p2), .val (.long q3), .second, .val (.int (0 : Int32)), .val (.int (own_fl (p1 &&& (2 : Int32)))), .val (.int ((1 : Int32) + (p2 &&& (63 : Int32)))), .unset, .unset, .unset, .unset, .unset, .unset, .unset, .unset, .unset] [(.long q3)])) t → Steps p.tables e below (s₁.setTop (mkF m 0 #[.val (.int p1), .val (.int p2), .val (.long q3), .second, .unset, .unset, .unset, .unset, .unset, .unset, .unset, .unset, .unset, .unset, .unset, .unset] [])) t := by
          intro t k
          refine R65 t ?_
          refine XS.lloadN X0.here hx rfl (hb hby at_75) rfl ?_
          refine XS.goto X0.here hx rfl (pc0 := 76) (pc' := 87) rfl (hb hby at_76) (by decide) (by decide) ?_
          exact k
        exact R66 t k
      · rw [show (own_pm ((1 : Int32) + (p2 &&& (63 : Int32))) q3) = (q3 &&& (((1 : Int64) <<< (((1 : Int32) + (p2 &&& (63 : Int32))) &&& 0x3f).toInt64) - (1 : Int64))) from if_neg hd] at k
        have R67 : ∀ t, Steps p.tables e below (s₁.setTop (mkF m 79 #[.val (.int p1), .val (.int p2), .val (.long q3), .second, .val (.int (0 : Int32)), .val (.int (own_fl (p1 &&& (2 : Int32)))), .val (.int ((1 : Int32) + (p2 &&& (63 : Int32)))), .unset, .unset, .unset, .unset, .unset, .unset, .unset, .unset, .unset] [])) t → Steps p.tables e below (s₁.setTop (mkF m 0 #[.val (.int p1), .val (.int p2), .val (.long q3), .second, .unset, .unset, .unset, .unset, .unset, .unset, .unset, .unset, .unset, .unset, .unset, .unset] [])) t := by
          intro t k
          refine R63 t ?_
          refine XS.icmpYes X0.here hx rfl (pc0 := 72) (pc' := 79) rfl (hb hby at_72) rfl (feq hd).2 (by decide) (by decide) ?_
          exact k
        have R68 : ∀ t, Steps p.tables e below (s₁.setTop (mkF m 87 #[.val (.int p1), .val (.int p2), .val (.long q3), .second, .val (.int (0 : Int32)), .val (.int (own_fl (p1 &&& (2 : Int32)))), .val (.int ((1 : Int32) + (p2 &&& (63 : Int32)))), .unset, .unset, .unset, .unset, .unset, .unset, .unset, .unset, .unset] [(.long (q3 &&& ((((1 : Int64) <<< (((1 : Int32) + (p2 &&& (63 : Int32))) &&& 0x3f).toInt64)) - (1 : Int64))))])) t → Steps p.tables e below (s₁.setTop (mkF m 0 #[.val (.int p1), .val (.int p2), .val (.long q3), .second, .unset, .unset, .unset, .unset, .unset, .unset, .unset, .unset, .unset, .unset, .unset, .unset] [])) t := by
          intro t k
          refine R67 t ?_
          refine XS.lloadN X0.here hx rfl (hb hby at_79) rfl ?_
          refine XS.lconst X0.here hx rfl (hb hby at_80) ?_
          refine XS.iload X0.here hx rfl (hb hby at_81) rfl ?_
          refine XS.lshl X0.here hx rfl (hb hby at_83) rfl ?_
          refine XS.lconst X0.here hx rfl (hb hby at_84) ?_
          refine XS.lsub X0.here hx rfl (hb hby at_85) rfl ?_
          refine XS.land X0.here hx rfl (hb hby at_86) rfl ?_
          exact k
        exact R68 t k
    have R69 : ∀ t, Steps p.tables e below (s₁.setTop (mkF m 89 #[.val (.int p1), .val (.int p2), .val (.long q3), .second, .val (.int (0 : Int32)), .val (.int (own_fl (p1 &&& (2 : Int32)))), .val (.int ((1 : Int32) + (p2 &&& (63 : Int32)))), .val (.long (own_pm ((1 : Int32) + (p2 &&& (63 : Int32))) q3)), .second, .unset, .unset, .unset, .unset, .unset, .unset, .unset] [])) t → Steps p.tables e below (s₁.setTop (mkF m 0 #[.val (.int p1), .val (.int p2), .val (.long q3), .second, .unset, .unset, .unset, .unset, .unset, .unset, .unset, .unset, .unset, .unset, .unset, .unset] [])) t := by
      intro t k
      refine R64 t ?_
      refine XS.lstore X0.here hx rfl (hb hby at_87) rfl (l' := #[.val (.int p1), .val (.int p2), .val (.long q3), .second, .val (.int (0 : Int32)), .val (.int (own_fl (p1 &&& (2 : Int32)))), .val (.int ((1 : Int32) + (p2 &&& (63 : Int32)))), .val (.long (own_pm ((1 : Int32) + (p2 &&& (63 : Int32))) q3)), .second, .unset, .unset, .unset, .unset, .unset, .unset, .unset]) rfl ?_
      exact k
    obtain ⟨T70, h70, X70, e70, x70, A70, D70, -, st70⟩ := newO X0 hx hZ hown (hw _ (List.mem_of_getElem? (i := 0) rfl)) (hw _ (List.mem_of_getElem? (i := 1) rfl)) (hw _ (List.mem_of_getElem? (i := 2) rfl)) e0 (g := (mkF m 89 #[.val (.int p1), .val (.int p2), .val (.long q3), .second, .val (.int (0 : Int32)), .val (.int (own_fl (p1 &&& (2 : Int32)))), .val (.int ((1 : Int32) + (p2 &&& (63 : Int32)))), .val (.long (own_pm ((1 : Int32) + (p2 &&& (63 : Int32))) q3)), .second, .unset, .unset, .unset, .unset, .unset, .unset, .unset] [])) rfl (hb hby at_89) (by decide) (by decide)
    obtain ⟨b1, g_b1⟩ : ∃ z, z = h0.size := ⟨_, rfl⟩
    rw [← g_b1] at A70 D70 st70
    have n_b1 : n0 ≤ b1 := Nat.le_trans Z0 (Nat.le_of_eq g_b1.symm)
    have Z70 : n0 ≤ h70.size := Nat.le_trans Z0 x70.1
    have F_71 : Fld Z h70 b1 "com/example/rigorous_bytecode/rigorousbytecode/text/TextScanner$IntegerLiteral" "negative" "Z" (.int (0 : Int32)) := D70 (Or.inr (hw _ (List.mem_of_getElem? (i := 23) rfl))) (ty := .boolean) (by decide)
    have F_72 : Fld Z h70 b1 "com/example/rigorous_bytecode/rigorousbytecode/text/TextScanner$IntegerLiteral" "magnitude" "J" (.long (0 : Int64)) := D70 (Or.inr (hw _ (List.mem_of_getElem? (i := 25) rfl))) (ty := .long) (by decide)
    have F_73 : Fld Z h70 b1 "com/example/rigorous_bytecode/rigorousbytecode/text/TextScanner$IntegerLiteral" "suffixWidth" "I" (.int (0 : Int32)) := D70 (Or.inr (hw _ (List.mem_of_getElem? (i := 27) rfl))) (ty := .int) (by decide)
    have F_74 : Fld Z h70 b1 "com/example/rigorous_bytecode/rigorousbytecode/text/TextScanner$IntegerLiteral" "spelling" "Ljava/lang/String;" .null := D70 (Or.inr (hw _ (List.mem_of_getElem? (i := 29) rfl))) (ty := (.object "java/lang/String")) (by decide)
    have R75 : ∀ t, Steps p.tables e below (T70.setTop (mkF m 92 #[.val (.int p1), .val (.int p2), .val (.long q3), .second, .val (.int (0 : Int32)), .val (.int (own_fl (p1 &&& (2 : Int32)))), .val (.int ((1 : Int32) + (p2 &&& (63 : Int32)))), .val (.long (own_pm ((1 : Int32) + (p2 &&& (63 : Int32))) q3)), .second, .unset, .unset, .unset, .unset, .unset, .unset, .unset] [(.ref b1)])) t → Steps p.tables e below (s₁.setTop (mkF m 0 #[.val (.int p1), .val (.int p2), .val (.long q3), .second, .unset, .unset, .unset, .unset, .unset, .unset, .unset, .unset, .unset, .unset, .unset, .unset] [])) t := fun t k => R69 t (st70 _ k)
    have R76 : ∀ t, Steps p.tables e below (T70.setTop (mkF m 98 #[.val (.int p1), .val (.int p2), .val (.long q3), .second, .val (.int (0 : Int32)), .val (.int (own_fl (p1 &&& (2 : Int32)))), .val (.int ((1 : Int32) + (p2 &&& (63 : Int32)))), .val (.long (own_pm ((1 : Int32) + (p2 &&& (63 : Int32))) q3)), .second, .unset, .unset, .unset, .unset, .unset, .unset, .unset] [(.int (0 : Int32)), (.long (own_pm ((1 : Int32) + (p2 &&& (63 : Int32))) q3)), (.int (0 : Int32)), (.ref b1), (.ref b1)])) t → Steps p.tables e below (s₁.setTop (mkF m 0 #[.val (.int p1), .val (.int p2), .val (.long q3), .second, .unset, .unset, .unset, .unset, .unset, .unset, .unset, .unset, .unset, .unset, .unset, .unset] [])) t := by
      intro t k
      refine R75 t ?_
      refine XS.dup X70.here hx rfl (hb hby at_92) rfl rfl ?_
      refine XS.iload X70.here hx rfl (hb hby at_93) rfl ?_
      refine XS.lload X70.here hx rfl (hb hby at_95) rfl ?_
      refine XS.iconst X70.here hx rfl (hb hby at_97) ?_
      exact k
    have hS77 : s.Since s.vm 0 := (State.WarmedH.refl s).since 0
    obtain ⟨aStr, T77, h77, k77, X77, e77, x77, hS77, hk77, hZ77, ho77, st77⟩ := ldcS (s := s) (vm0 := s.vm) X70 hx hZ hown (hw _ (List.mem_of_getElem? (i := 3) rfl)) (own_wS hw) e70 hS77 (Nat.zero_le _) (g := (mkF m 98 #[.val (.int p1), .val (.int p2), .val (.long q3), .second, .val (.int (0 : Int32)), .val (.int (own_fl (p1 &&& (2 : Int32)))), .val (.int ((1 : Int32) + (p2 &&& (63 : Int32)))), .val (.long (own_pm ((1 : Int32) + (p2 &&& (63 : Int32))) q3)), .second, .unset, .unset, .unset, .unset, .unset, .unset, .unset] [(.int (0 : Int32)), (.long (own_pm ((1 : Int32) + (p2 &&& (63 : Int32))) q3)), (.int (0 : Int32)), (.ref b1), (.ref b1)])) rfl (hb hby at_98) (n := 4) (by decide) (by decide) (by decide) (by decide)
    have Z77 : n0 ≤ h77.size := Nat.le_trans Z70 x77.1
    have E_78 : Exa Z h77 b1 "com/example/rigorous_bytecode/rigorousbytecode/text/TextScanner$IntegerLiteral" := A70.ext x77
    have F_79 : Fld Z h77 b1 "com/example/rigorous_bytecode/rigorousbytecode/text/TextScanner$IntegerLiteral" "negative" "Z" (.int (0 : Int32)) := F_71.ext x77
    have F_80 : Fld Z h77 b1 "com/example/rigorous_bytecode/rigorousbytecode/text/TextScanner$IntegerLiteral" "magnitude" "J" (.long (0 : Int64)) := F_72.ext x77
    have F_81 : Fld Z h77 b1 "com/example/rigorous_bytecode/rigorousbytecode/text/TextScanner$IntegerLiteral" "suffixWidth" "I" (.int (0 : Int32)) := F_73.ext x77
    have F_82 : Fld Z h77 b1 "com/example/rigorous_bytecode/rigorousbytecode/text/TextScanner$IntegerLiteral" "spelling" "Ljava/lang/String;" .null := F_74.ext x77
    have R83 : ∀ t, Steps p.tables e below (T77.setTop (mkF m 100 #[.val (.int p1), .val (.int p2), .val (.long q3), .second, .val (.int (0 : Int32)), .val (.int (own_fl (p1 &&& (2 : Int32)))), .val (.int ((1 : Int32) + (p2 &&& (63 : Int32)))), .val (.long (own_pm ((1 : Int32) + (p2 &&& (63 : Int32))) q3)), .second, .unset, .unset, .unset, .unset, .unset, .unset, .unset] [(.ref aStr), (.int (0 : Int32)), (.long (own_pm ((1 : Int32) + (p2 &&& (63 : Int32))) q3)), (.int (0 : Int32)), (.ref b1), (.ref b1)])) t → Steps p.tables e below (s₁.setTop (mkF m 0 #[.val (.int p1), .val (.int p2), .val (.long q3), .second, .unset, .unset, .unset, .unset, .unset, .unset, .unset, .unset, .unset, .unset, .unset, .unset] [])) t := fun t k => R76 t (st77 _ k)
    obtain ⟨_, _, ⟨T84, L84, k84, n84⟩, -, X84, ⟨Lc84, hQ84, l84, y84, z84⟩, st84⟩ := X77.specialBack hx (y := (⟨"com/example/rigorous_bytecode/rigorousbytecode/text/TextScanner$IntegerLiteral", "<init>", "(ZJILjava/lang/String;)V"⟩ : MethodName)) rfl ho77 (mvT hZ77 (hw _ (List.mem_of_getElem? (i := 11) rfl))) (mvT hZ77 (hw _ (List.mem_of_getElem? (i := 12) rfl))) (mvT hZ77 (hw _ (List.mem_of_getElem? (i := 13) rfl))) (by decide) (backOf (W := 1) (rm1 l Z a0 hw [] b1 (0 : Int32) (own_pm ((1 : Int32) + (p2 &&& (63 : Int32))) q3) (0 : Int32) aStr (.int (0 : Int32)) (.long (0 : Int64)) (.int (0 : Int32)) .null h77 n0 Z77 E_78 F_79 F_80 F_81 F_82 n_b1 (by decide)) hZ77 (hw _ (List.mem_of_getElem? (i := 13) rfl)) (hw _ (List.mem_of_getElem? (i := 2) rfl)) (by decide) (by decide)) (g := (mkF m 100 #[.val (.int p1), .val (.int p2), .val (.long q3), .second, .val (.int (0 : Int32)), .val (.int (own_fl (p1 &&& (2 : Int32)))), .val (.int ((1 : Int32) + (p2 &&& (63 : Int32)))), .val (.long (own_pm ((1 : Int32) + (p2 &&& (63 : Int32))) q3)), .second, .unset, .unset, .unset, .unset, .unset, .unset, .unset] [(.ref aStr), (.int (0 : Int32)), (.long (own_pm ((1 : Int32) + (p2 &&& (63 : Int32))) q3)), (.int (0 : Int32)), (.ref b1), (.ref b1)])) rfl (by rw [hml]; rfl) (Steps.refl _) (a := b1) (argsL := [(.int (0 : Int32)), (.long (own_pm ((1 : Int32) + (p2 &&& (63 : Int32))) q3)), (.int (0 : Int32)), (.ref aStr)]) (rest := [(.ref b1)]) (lenOf pd_1 rfl) rfl (by show 2 * 0 + _ ≤ _; exact Nat.le_of_eq rfl) (hb hby at_100) (fun _ _ => ⟨rfl, e77, (by decide : 3 + 0 ≤ _), (by decide : 12 + 0 ≤ _)⟩)
    dsimp only [Pt.U, Pt.locs, Pt.cells, Pt.slots] at X84 l84 y84 z84 st84 hQ84
    subst l84 y84 z84
    obtain ⟨rfl, M84, J84, Fa84, Fb84⟩ := hQ84
    have Z84 : n0 ≤ T84.heap.size := Nat.le_trans Z77 J84.1
    have Y84 : k77 ≤ T84.heap.size := Nat.le_trans hk77 J84.1
    have E_85 : Exa Z T84.heap b1 "com/example/rigorous_bytecode/rigorousbytecode/text/TextScanner$IntegerLiteral" := E_78.keep J84
    have N84 := Fr.app N0 M84
    have R86 : ∀ t, Steps p.tables e below (T84.setTop (mkF m 103 #[.val (.int p1), .val (.int p2), .val (.long q3), .second, .val (.int (0 : Int32)), .val (.int (own_fl (p1 &&& (2 : Int32)))), .val (.int ((1 : Int32) + (p2 &&& (63 : Int32)))), .val (.long (own_pm ((1 : Int32) + (p2 &&& (63 : Int32))) q3)), .second, .unset, .unset, .unset, .unset, .unset, .unset, .unset] [(.ref b1)])) t → Steps p.tables e below (s₁.setTop (mkF m 0 #[.val (.int p1), .val (.int p2), .val (.long q3), .second, .unset, .unset, .unset, .unset, .unset, .unset, .unset, .unset, .unset, .unset, .unset, .unset] [])) t := fun t k => R83 t (st84.trans k)
    have R87 : ∀ t, Steps p.tables e below (T84.setTop (mkF m 109 #[.val (.int p1), .val (.int p2), .val (.long q3), .second, .val (.int (0 : Int32)), .val (.int (own_fl (p1 &&& (2 : Int32)))), .val (.int ((1 : Int32) + (p2 &&& (63 : Int32)))), .val (.long (own_pm ((1 : Int32) + (p2 &&& (63 : Int32))) q3)), .second, .val (.ref b1), .unset, .unset, .unset, .unset, .unset, .unset] [(.int ((1 : Int32) + (p2 &&& (63 : Int32)))), (.ref b1)])) t → Steps p.tables e below (s₁.setTop (mkF m 0 #[.val (.int p1), .val (.int p2), .val (.long q3), .second, .unset, .unset, .unset, .unset, .unset, .unset, .unset, .unset, .unset, .unset, .unset, .unset] [])) t := by
      intro t k
      refine R86 t ?_
      refine XS.astore X84.here hx rfl (hb hby at_103) rfl rfl (l' := #[.val (.int p1), .val (.int p2), .val (.long q3), .second, .val (.int (0 : Int32)), .val (.int (own_fl (p1 &&& (2 : Int32)))), .val (.int ((1 : Int32) + (p2 &&& (63 : Int32)))), .val (.long (own_pm ((1 : Int32) + (p2 &&& (63 : Int32))) q3)), .second, .val (.ref b1), .unset, .unset, .unset, .unset, .unset, .unset]) rfl ?_
      refine XS.aload X84.here hx rfl (hb hby at_105) rfl rfl ?_
      refine XS.iload X84.here hx rfl (hb hby at_107) rfl ?_
      exact k
    obtain ⟨_, _, q89a, q89b, q89c⟩ := isOf hZ77 rfl E_85
    obtain ⟨_, _, ⟨T88, L88, k88, n88⟩, -, X88, ⟨Lc88, hQ88, l88, y88, z88⟩, st88⟩ := X84.virtualBack hx (y := (⟨"com/example/rigorous_bytecode/rigorousbytecode/text/TextScanner$IntegerLiteral", "value", "(I)J"⟩ : MethodName)) (z := (⟨"com/example/rigorous_bytecode/rigorousbytecode/text/TextScanner$IntegerLiteral", "value", "(I)J"⟩ : MethodName)) ho77 (mvT hZ77 (hw _ (List.mem_of_getElem? (i := 30) rfl))) (mvT hZ77 (hw _ (List.mem_of_getElem? (i := 31) rfl))) (notFace_of_selects (args := #[]) (mvT hZ77 (hw _ (List.mem_of_getElem? (i := 33) rfl)))) (mvT hZ77 (hw _ (List.mem_of_getElem? (i := 33) rfl))) (mvT hZ77 (hw _ (List.mem_of_getElem? (i := 32) rfl))) (by decide) (backOf (W := 0) (rm4 l Z a0 hw [] b1 ((1 : Int32) + (p2 &&& (63 : Int32))) (0 : Int32) (own_pm ((1 : Int32) + (p2 &&& (63 : Int32))) q3) T84.heap n0 Z84 Fa84 Fb84) hZ77 (hw _ (List.mem_of_getElem? (i := 34) rfl)) (hw _ (List.mem_of_getElem? (i := 2) rfl)) (by decide) (by decide)) q89a q89c (g := (mkF m 109 #[.val (.int p1), .val (.int p2), .val (.long q3), .second, .val (.int (0 : Int32)), .val (.int (own_fl (p1 &&& (2 : Int32)))), .val (.int ((1 : Int32) + (p2 &&& (63 : Int32)))), .val (.long (own_pm ((1 : Int32) + (p2 &&& (63 : Int32))) q3)), .second, .val (.ref b1), .unset, .unset, .unset, .unset, .unset, .unset] [(.int ((1 : Int32) + (p2 &&& (63 : Int32)))), (.ref b1)])) rfl (by rw [hml]; rfl) (Steps.refl _) (argsL := [(.int ((1 : Int32) + (p2 &&& (63 : Int32))))]) (rest := []) (lenOf pd_2 rfl) rfl (by show 2 * 0 + _ ≤ _; exact Nat.le_of_eq rfl) (hb hby at_109) (fun _ _ => ⟨rfl, rfl, (by decide : 3 + 0 ≤ _), (by decide : 12 + 0 ≤ _)⟩)
    dsimp only [Pt.U, Pt.locs, Pt.cells, Pt.slots] at X88 l88 y88 z88 st88 hQ88
    subst l88 y88 z88
    obtain ⟨rfl, M88, e88⟩ := hQ88
    have N88 := Fr.app N84 M88
    have R90 : ∀ t, Steps p.tables e below (T88.setTop (mkF m 112 #[.val (.int p1), .val (.int p2), .val (.long q3), .second, .val (.int (0 : Int32)), .val (.int (own_fl (p1 &&& (2 : Int32)))), .val (.int ((1 : Int32) + (p2 &&& (63 : Int32)))), .val (.long (own_pm ((1 : Int32) + (p2 &&& (63 : Int32))) q3)), .second, .val (.ref b1), .unset, .unset, .unset, .unset, .unset, .unset] [(.long (own_val (0 : Int32) (own_pm ((1 : Int32) + (p2 &&& (63 : Int32))) q3) ((1 : Int32) + (p2 &&& (63 : Int32)))))])) t → Steps p.tables e below (s₁.setTop (mkF m 0 #[.val (.int p1), .val (.int p2), .val (.long q3), .second, .unset, .unset, .unset, .unset, .unset, .unset, .unset, .unset, .unset, .unset, .unset, .unset] [])) t := fun t k => R87 t (st88.trans k)
    have R91 : ∀ t, Steps p.tables e below (T88.setTop (mkF m 116 #[.val (.int p1), .val (.int p2), .val (.long q3), .second, .val (.int (0 : Int32)), .val (.int (own_fl (p1 &&& (2 : Int32)))), .val (.int ((1 : Int32) + (p2 &&& (63 : Int32)))), .val (.long (own_pm ((1 : Int32) + (p2 &&& (63 : Int32))) q3)), .second, .val (.ref b1), .val (.long (own_val (0 : Int32) (own_pm ((1 : Int32) + (p2 &&& (63 : Int32))) q3) ((1 : Int32) + (p2 &&& (63 : Int32))))), .second, .unset, .unset, .unset, .unset] [(.int (0 : Int32))])) t → Steps p.tables e below (s₁.setTop (mkF m 0 #[.val (.int p1), .val (.int p2), .val (.long q3), .second, .unset, .unset, .unset, .unset, .unset, .unset, .unset, .unset, .unset, .unset, .unset, .unset] [])) t := by
      intro t k
      refine R90 t ?_
      refine XS.lstore X88.here hx rfl (hb hby at_112) rfl (l' := #[.val (.int p1), .val (.int p2), .val (.long q3), .second, .val (.int (0 : Int32)), .val (.int (own_fl (p1 &&& (2 : Int32)))), .val (.int ((1 : Int32) + (p2 &&& (63 : Int32)))), .val (.long (own_pm ((1 : Int32) + (p2 &&& (63 : Int32))) q3)), .second, .val (.ref b1), .val (.long (own_val (0 : Int32) (own_pm ((1 : Int32) + (p2 &&& (63 : Int32))) q3) ((1 : Int32) + (p2 &&& (63 : Int32))))), .second, .unset, .unset, .unset, .unset]) rfl ?_
      refine XS.iload X88.here hx rfl (hb hby at_114) rfl ?_
      exact k
    have R92 : ∀ t, Steps p.tables e below (T88.setTop (mkF m 127 #[.val (.int p1), .val (.int p2), .val (.long q3), .second, .val (.int (0 : Int32)), .val (.int (own_fl (p1 &&& (2 : Int32)))), .val (.int ((1 : Int32) + (p2 &&& (63 : Int32)))), .val (.long (own_pm ((1 : Int32) + (p2 &&& (63 : Int32))) q3)), .second, .val (.ref b1), .val (.long (own_val (0 : Int32) (own_pm ((1 : Int32) + (p2 &&& (63 : Int32))) q3) ((1 : Int32) + (p2 &&& (63 : Int32))))), .second, .unset, .unset, .unset, .unset] [])) t → Steps p.tables e below (s₁.setTop (mkF m 0 #[.val (.int p1), .val (.int p2), .val (.long q3), .second, .unset, .unset, .unset, .unset, .unset, .unset, .unset, .unset, .unset, .unset, .unset, .unset] [])) t := by
      intro t k
      refine R91 t ?_
      refine XS.ifYes X88.here hx rfl (pc0 := 116) (pc' := 127) rfl (hb hby at_116) rfl ((if0 _ _).trans (teq rfl).1) (by decide) (by decide) ?_
      exact k
    have R93 : ∀ t, Steps p.tables e below (T88.setTop (mkF m 131 #[.val (.int p1), .val (.int p2), .val (.long q3), .second, .val (.int (0 : Int32)), .val (.int (own_fl (p1 &&& (2 : Int32)))), .val (.int ((1 : Int32) + (p2 &&& (63 : Int32)))), .val (.long (own_pm ((1 : Int32) + (p2 &&& (63 : Int32))) q3)), .second, .val (.ref b1), .val (.long (own_val (0 : Int32) (own_pm ((1 : Int32) + (p2 &&& (63 : Int32))) q3) ((1 : Int32) + (p2 &&& (63 : Int32))))), .second, .unset, .unset, .unset, .unset] [(.int (64 : Int32)), (.int ((1 : Int32) + (p2 &&& (63 : Int32))))])) t → Steps p.tables e below (s₁.setTop (mkF m 0 #[.val (.int p1), .val (.int p2), .val (.long q3), .second, .unset, .unset, .unset, .unset, .unset, .unset, .unset, .unset, .unset, .unset, .unset, .unset] [])) t := by
      intro t k
      refine R92 t ?_
      refine XS.iload X88.here hx rfl (hb hby at_127) rfl ?_
      refine XS.bipush X88.here hx rfl (hb hby at_129) ?_
      exact k
    by_cases hd : ((1 : Int32) + (p2 &&& (63 : Int32))) = (64 : Int32)
    · have R94 : ∀ t, Steps p.tables e below (T88.setTop (mkF m 134 #[.val (.int p1), .val (.int p2), .val (.long q3), .second, .val (.int (0 : Int32)), .val (.int (own_fl (p1 &&& (2 : Int32)))), .val (.int ((1 : Int32) + (p2 &&& (63 : Int32)))), .val (.long (own_pm ((1 : Int32) + (p2 &&& (63 : Int32))) q3)), .second, .val (.ref b1), .val (.long (own_val (0 : Int32) (own_pm ((1 : Int32) + (p2 &&& (63 : Int32))) q3) ((1 : Int32) + (p2 &&& (63 : Int32))))), .second, .unset, .unset, .unset, .unset] [])) t → Steps p.tables e below (s₁.setTop (mkF m 0 #[.val (.int p1), .val (.int p2), .val (.long q3), .second, .unset, .unset, .unset, .unset, .unset, .unset, .unset, .unset, .unset, .unset, .unset, .unset] [])) t := by
        intro t k
        refine R93 t ?_
        refine XS.icmpNo X88.here hx rfl (hb hby at_131) rfl (teq hd).2 ?_
        exact k
      have R95 : ∀ t, Steps p.tables e below (T88.setTop (mkF m 176 #[.val (.int p1), .val (.int p2), .val (.long q3), .second, .val (.int (0 : Int32)), .val (.int (own_fl (p1 &&& (2 : Int32)))), .val (.int ((1 : Int32) + (p2 &&& (63 : Int32)))), .val (.long (own_pm ((1 : Int32) + (p2 &&& (63 : Int32))) q3)), .second, .val (.ref b1), .val (.long (own_val (0 : Int32) (own_pm ((1 : Int32) + (p2 &&& (63 : Int32))) q3) ((1 : Int32) + (p2 &&& (63 : Int32))))), .second, .val (.long (own_pm ((1 : Int32) + (p2 &&& (63 : Int32))) q3)), .second, .unset, .unset] [(.int (lcmpW (own_val (0 : Int32) (own_pm ((1 : Int32) + (p2 &&& (63 : Int32))) q3) ((1 : Int32) + (p2 &&& (63 : Int32)))) (own_pm ((1 : Int32) + (p2 &&& (63 : Int32))) q3)))])) t → Steps p.tables e below (s₁.setTop (mkF m 0 #[.val (.int p1), .val (.int p2), .val (.long q3), .second, .unset, .unset, .unset, .unset, .unset, .unset, .unset, .unset, .unset, .unset, .unset, .unset] [])) t := by
        intro t k
        refine R94 t ?_
        refine XS.lload X88.here hx rfl (hb hby at_134) rfl ?_
        refine XS.lstore X88.here hx rfl (hb hby at_136) rfl (l' := #[.val (.int p1), .val (.int p2), .val (.long q3), .second, .val (.int (0 : Int32)), .val (.int (own_fl (p1 &&& (2 : Int32)))), .val (.int ((1 : Int32) + (p2 &&& (63 : Int32)))), .val (.long (own_pm ((1 : Int32) + (p2 &&& (63 : Int32))) q3)), .second, .val (.ref b1), .val (.long (own_val (0 : Int32) (own_pm ((1 : Int32) + (p2 &&& (63 : Int32))) q3) ((1 : Int32) + (p2 &&& (63 : Int32))))), .second, .val (.long (own_pm ((1 : Int32) + (p2 &&& (63 : Int32))) q3)), .second, .unset, .unset]) rfl ?_
        refine XS.goto X88.here hx rfl (pc0 := 138) (pc' := 171) rfl (hb hby at_138) (by decide) (by decide) ?_
        refine XS.lload X88.here hx rfl (hb hby at_171) rfl ?_
        refine XS.lload X88.here hx rfl (hb hby at_173) rfl ?_
        refine XS.lcmp X88.here hx rfl (hb hby at_175) rfl ?_
        exact k
      have R96 : ∀ t, Steps p.tables e below (T88.setTop (mkF m 179 #[.val (.int p1), .val (.int p2), .val (.long q3), .second, .val (.int (0 : Int32)), .val (.int (own_fl (p1 &&& (2 : Int32)))), .val (.int ((1 : Int32) + (p2 &&& (63 : Int32)))), .val (.long (own_pm ((1 : Int32) + (p2 &&& (63 : Int32))) q3)), .second, .val (.ref b1), .val (.long (own_val (0 : Int32) (own_pm ((1 : Int32) + (p2 &&& (63 : Int32))) q3) ((1 : Int32) + (p2 &&& (63 : Int32))))), .second, .val (.long (own_pm ((1 : Int32) + (p2 &&& (63 : Int32))) q3)), .second, .unset, .unset] [])) t → Steps p.tables e below (s₁.setTop (mkF m 0 #[.val (.int p1), .val (.int p2), .val (.long q3), .second, .unset, .unset, .unset, .unset, .unset, .unset, .unset, .unset, .unset, .unset, .unset, .unset] [])) t := by
        intro t k
        refine R95 t ?_
        refine XS.ifNo X88.here hx rfl (hb hby at_176) rfl ((if0 _ _).trans (teq ((lw_eq _ _).mpr (own_lawB p2 q3 hd))).2) ?_
        exact k
      have R97 : ∀ t, Steps p.tables e below (T88.setTop (mkF m 184 #[.val (.int p1), .val (.int p2), .val (.long q3), .second, .val (.int (0 : Int32)), .val (.int (own_fl (p1 &&& (2 : Int32)))), .val (.int ((1 : Int32) + (p2 &&& (63 : Int32)))), .val (.long (own_pm ((1 : Int32) + (p2 &&& (63 : Int32))) q3)), .second, .val (.ref b1), .val (.long (own_val (0 : Int32) (own_pm ((1 : Int32) + (p2 &&& (63 : Int32))) q3) ((1 : Int32) + (p2 &&& (63 : Int32))))), .second, .val (.long (own_pm ((1 : Int32) + (p2 &&& (63 : Int32))) q3)), .second, .unset, .unset] [(.int (1 : Int32))])) t → Steps p.tables e below (s₁.setTop (mkF m 0 #[.val (.int p1), .val (.int p2), .val (.long q3), .second, .unset, .unset, .unset, .unset, .unset, .unset, .unset, .unset, .unset, .unset, .unset, .unset] [])) t := by
        intro t k
        refine R96 t ?_
        refine XS.iconst X88.here hx rfl (hb hby at_179) ?_
        refine XS.goto X88.here hx rfl (pc0 := 180) (pc' := 184) rfl (hb hby at_180) (by decide) (by decide) ?_
        exact k
      obtain ⟨fs, hr, hrun, hended, hv1, hv2, hv3, hv4⟩ := X88.leaveW hS77 (by rw [show T88.heap = T84.heap from e88]; exact Y84) (v := some (.int (1 : Int32))) (fun h => by rw [Bd.returns] at h; cases h)
      refine ⟨_, _, pre0 _ (R97 _ (retN X88 hx (t := .boolean) Bd.returns (by simp) (hb hby at_184) hr)), hrun, hended, _, _, rfl, ?_, hv1, hv2, hv3, hv4.mono (by decide) (by decide)⟩
      show Q_rm0 Z p1 p2 q3  h0 n0 _ T88.heap _
      rw [e88]
      exact ⟨rfl, N88⟩
    · have R98 : ∀ t, Steps p.tables e below (T88.setTop (mkF m 141 #[.val (.int p1), .val (.int p2), .val (.long q3), .second, .val (.int (0 : Int32)), .val (.int (own_fl (p1 &&& (2 : Int32)))), .val (.int ((1 : Int32) + (p2 &&& (63 : Int32)))), .val (.long (own_pm ((1 : Int32) + (p2 &&& (63 : Int32))) q3)), .second, .val (.ref b1), .val (.long (own_val (0 : Int32) (own_pm ((1 : Int32) + (p2 &&& (63 : Int32))) q3) ((1 : Int32) + (p2 &&& (63 : Int32))))), .second, .unset, .unset, .unset, .unset] [])) t → Steps p.tables e below (s₁.setTop (mkF m 0 #[.val (.int p1), .val (.int p2), .val (.long q3), .second, .unset, .unset, .unset, .unset, .unset, .unset, .unset, .unset, .unset, .unset, .unset, .unset] [])) t := by
        intro t k
        refine R93 t ?_
        refine XS.icmpYes X88.here hx rfl (pc0 := 131) (pc' := 141) rfl (hb hby at_131) rfl (feq hd).2 (by decide) (by decide) ?_
        exact k
      have R99 : ∀ t, Steps p.tables e below (T88.setTop (mkF m 154 #[.val (.int p1), .val (.int p2), .val (.long q3), .second, .val (.int (0 : Int32)), .val (.int (own_fl (p1 &&& (2 : Int32)))), .val (.int ((1 : Int32) + (p2 &&& (63 : Int32)))), .val (.long (own_pm ((1 : Int32) + (p2 &&& (63 : Int32))) q3)), .second, .val (.ref b1), .val (.long (own_val (0 : Int32) (own_pm ((1 : Int32) + (p2 &&& (63 : Int32))) q3) ((1 : Int32) + (p2 &&& (63 : Int32))))), .second, .unset, .unset, .val (.long (((1 : Int64) <<< ((((1 : Int32) + (p2 &&& (63 : Int32))) - (1 : Int32)) &&& 0x3f).toInt64))), .second] [(.int (lcmpW (own_pm ((1 : Int32) + (p2 &&& (63 : Int32))) q3) (((1 : Int64) <<< ((((1 : Int32) + (p2 &&& (63 : Int32))) - (1 : Int32)) &&& 0x3f).toInt64))))])) t → Steps p.tables e below (s₁.setTop (mkF m 0 #[.val (.int p1), .val (.int p2), .val (.long q3), .second, .unset, .unset, .unset, .unset, .unset, .unset, .unset, .unset, .unset, .unset, .unset, .unset] [])) t := by
        intro t k
        refine R98 t ?_
        refine XS.lconst X88.here hx rfl (hb hby at_141) ?_
        refine XS.iload X88.here hx rfl (hb hby at_142) rfl ?_
        refine XS.iconst X88.here hx rfl (hb hby at_144) ?_
        refine XS.isub X88.here hx rfl (hb hby at_145) rfl ?_
        refine XS.lshl X88.here hx rfl (hb hby at_146) rfl ?_
        refine XS.lstore X88.here hx rfl (hb hby at_147) rfl (l' := #[.val (.int p1), .val (.int p2), .val (.long q3), .second, .val (.int (0 : Int32)), .val (.int (own_fl (p1 &&& (2 : Int32)))), .val (.int ((1 : Int32) + (p2 &&& (63 : Int32)))), .val (.long (own_pm ((1 : Int32) + (p2 &&& (63 : Int32))) q3)), .second, .val (.ref b1), .val (.long (own_val (0 : Int32) (own_pm ((1 : Int32) + (p2 &&& (63 : Int32))) q3) ((1 : Int32) + (p2 &&& (63 : Int32))))), .second, .unset, .unset, .val (.long (((1 : Int64) <<< ((((1 : Int32) + (p2 &&& (63 : Int32))) - (1 : Int32)) &&& 0x3f).toInt64))), .second]) rfl ?_
        refine XS.lload X88.here hx rfl (hb hby at_149) rfl ?_
        refine XS.lload X88.here hx rfl (hb hby at_151) rfl ?_
        refine XS.lcmp X88.here hx rfl (hb hby at_153) rfl ?_
        exact k
      by_cases he : (own_pm ((1 : Int32) + (p2 &&& (63 : Int32))) q3) < ((1 : Int64) <<< ((((1 : Int32) + (p2 &&& (63 : Int32))) - (1 : Int32)) &&& 0x3f).toInt64)
      · have R100 : ∀ t, Steps p.tables e below (T88.setTop (mkF m 157 #[.val (.int p1), .val (.int p2), .val (.long q3), .second, .val (.int (0 : Int32)), .val (.int (own_fl (p1 &&& (2 : Int32)))), .val (.int ((1 : Int32) + (p2 &&& (63 : Int32)))), .val (.long (own_pm ((1 : Int32) + (p2 &&& (63 : Int32))) q3)), .second, .val (.ref b1), .val (.long (own_val (0 : Int32) (own_pm ((1 : Int32) + (p2 &&& (63 : Int32))) q3) ((1 : Int32) + (p2 &&& (63 : Int32))))), .second, .unset, .unset, .val (.long (((1 : Int64) <<< ((((1 : Int32) + (p2 &&& (63 : Int32))) - (1 : Int32)) &&& 0x3f).toInt64))), .second] [])) t → Steps p.tables e below (s₁.setTop (mkF m 0 #[.val (.int p1), .val (.int p2), .val (.long q3), .second, .unset, .unset, .unset, .unset, .unset, .unset, .unset, .unset, .unset, .unset, .unset, .unset] [])) t := by
          intro t k
          refine R99 t ?_
          refine XS.ifNo X88.here hx rfl (hb hby at_154) rfl ((if0 _ _).trans (tlt ((lw_lt _ _).mpr he)).2.1) ?_
          exact k
        have R101 : ∀ t, Steps p.tables e below (T88.setTop (mkF m 176 #[.val (.int p1), .val (.int p2), .val (.long q3), .second, .val (.int (0 : Int32)), .val (.int (own_fl (p1 &&& (2 : Int32)))), .val (.int ((1 : Int32) + (p2 &&& (63 : Int32)))), .val (.long (own_pm ((1 : Int32) + (p2 &&& (63 : Int32))) q3)), .second, .val (.ref b1), .val (.long (own_val (0 : Int32) (own_pm ((1 : Int32) + (p2 &&& (63 : Int32))) q3) ((1 : Int32) + (p2 &&& (63 : Int32))))), .second, .val (.long (own_pm ((1 : Int32) + (p2 &&& (63 : Int32))) q3)), .second, .val (.long (((1 : Int64) <<< ((((1 : Int32) + (p2 &&& (63 : Int32))) - (1 : Int32)) &&& 0x3f).toInt64))), .second] [(.int (lcmpW (own_val (0 : Int32) (own_pm ((1 : Int32) + (p2 &&& (63 : Int32))) q3) ((1 : Int32) + (p2 &&& (63 : Int32)))) (own_pm ((1 : Int32) + (p2 &&& (63 : Int32))) q3)))])) t → Steps p.tables e below (s₁.setTop (mkF m 0 #[.val (.int p1), .val (.int p2), .val (.long q3), .second, .unset, .unset, .unset, .unset, .unset, .unset, .unset, .unset, .unset, .unset, .unset, .unset] [])) t := by
          intro t k
          refine R100 t ?_
          refine XS.lload X88.here hx rfl (hb hby at_157) rfl ?_
          refine XS.goto X88.here hx rfl (pc0 := 159) (pc' := 169) rfl (hb hby at_159) (by decide) (by decide) ?_
          refine XS.lstore X88.here hx rfl (hb hby at_169) rfl (l' := #[.val (.int p1), .val (.int p2), .val (.long q3), .second, .val (.int (0 : Int32)), .val (.int (own_fl (p1 &&& (2 : Int32)))), .val (.int ((1 : Int32) + (p2 &&& (63 : Int32)))), .val (.long (own_pm ((1 : Int32) + (p2 &&& (63 : Int32))) q3)), .second, .val (.ref b1), .val (.long (own_val (0 : Int32) (own_pm ((1 : Int32) + (p2 &&& (63 : Int32))) q3) ((1 : Int32) + (p2 &&& (63 : Int32))))), .second, .val (.long (own_pm ((1 : Int32) + (p2 &&& (63 : Int32))) q3)), .second, .val (.long (((1 : Int64) <<< ((((1 : Int32) + (p2 &&& (63 : Int32))) - (1 : Int32)) &&& 0x3f).toInt64))), .second]) rfl ?_
          refine XS.lload X88.here hx rfl (hb hby at_171) rfl ?_
          refine XS.lload X88.here hx rfl (hb hby at_173) rfl ?_
          refine XS.lcmp X88.here hx rfl (hb hby at_175) rfl ?_
          exact k
        have R102 : ∀ t, Steps p.tables e below (T88.setTop (mkF m 179 #[.val (.int p1), .val (.int p2), .val (.long q3), .second, .val (.int (0 : Int32)), .val (.int (own_fl (p1 &&& (2 : Int32)))), .val (.int ((1 : Int32) + (p2 &&& (63 : Int32)))), .val (.long (own_pm ((1 : Int32) + (p2 &&& (63 : Int32))) q3)), .second, .val (.ref b1), .val (.long (own_val (0 : Int32) (own_pm ((1 : Int32) + (p2 &&& (63 : Int32))) q3) ((1 : Int32) + (p2 &&& (63 : Int32))))), .second, .val (.long (own_pm ((1 : Int32) + (p2 &&& (63 : Int32))) q3)), .second, .val (.long (((1 : Int64) <<< ((((1 : Int32) + (p2 &&& (63 : Int32))) - (1 : Int32)) &&& 0x3f).toInt64))), .second] [])) t → Steps p.tables e below (s₁.setTop (mkF m 0 #[.val (.int p1), .val (.int p2), .val (.long q3), .second, .unset, .unset, .unset, .unset, .unset, .unset, .unset, .unset, .unset, .unset, .unset, .unset] [])) t := by
          intro t k
          refine R101 t ?_
          refine XS.ifNo X88.here hx rfl (hb hby at_176) rfl ((if0 _ _).trans (teq ((lw_eq _ _).mpr (own_lawC p2 q3 hd he))).2) ?_
          exact k
        have R103 : ∀ t, Steps p.tables e below (T88.setTop (mkF m 184 #[.val (.int p1), .val (.int p2), .val (.long q3), .second, .val (.int (0 : Int32)), .val (.int (own_fl (p1 &&& (2 : Int32)))), .val (.int ((1 : Int32) + (p2 &&& (63 : Int32)))), .val (.long (own_pm ((1 : Int32) + (p2 &&& (63 : Int32))) q3)), .second, .val (.ref b1), .val (.long (own_val (0 : Int32) (own_pm ((1 : Int32) + (p2 &&& (63 : Int32))) q3) ((1 : Int32) + (p2 &&& (63 : Int32))))), .second, .val (.long (own_pm ((1 : Int32) + (p2 &&& (63 : Int32))) q3)), .second, .val (.long (((1 : Int64) <<< ((((1 : Int32) + (p2 &&& (63 : Int32))) - (1 : Int32)) &&& 0x3f).toInt64))), .second] [(.int (1 : Int32))])) t → Steps p.tables e below (s₁.setTop (mkF m 0 #[.val (.int p1), .val (.int p2), .val (.long q3), .second, .unset, .unset, .unset, .unset, .unset, .unset, .unset, .unset, .unset, .unset, .unset, .unset] [])) t := by
          intro t k
          refine R102 t ?_
          refine XS.iconst X88.here hx rfl (hb hby at_179) ?_
          refine XS.goto X88.here hx rfl (pc0 := 180) (pc' := 184) rfl (hb hby at_180) (by decide) (by decide) ?_
          exact k
        obtain ⟨fs, hr, hrun, hended, hv1, hv2, hv3, hv4⟩ := X88.leaveW hS77 (by rw [show T88.heap = T84.heap from e88]; exact Y84) (v := some (.int (1 : Int32))) (fun h => by rw [Bd.returns] at h; cases h)
        refine ⟨_, _, pre0 _ (R103 _ (retN X88 hx (t := .boolean) Bd.returns (by simp) (hb hby at_184) hr)), hrun, hended, _, _, rfl, ?_, hv1, hv2, hv3, hv4.mono (by decide) (by decide)⟩
        show Q_rm0 Z p1 p2 q3  h0 n0 _ T88.heap _
        rw [e88]
        exact ⟨rfl, N88⟩
      · have R104 : ∀ t, Steps p.tables e below (T88.setTop (mkF m 162 #[.val (.int p1), .val (.int p2), .val (.long q3), .second, .val (.int (0 : Int32)), .val (.int (own_fl (p1 &&& (2 : Int32)))), .val (.int ((1 : Int32) + (p2 &&& (63 : Int32)))), .val (.long (own_pm ((1 : Int32) + (p2 &&& (63 : Int32))) q3)), .second, .val (.ref b1), .val (.long (own_val (0 : Int32) (own_pm ((1 : Int32) + (p2 &&& (63 : Int32))) q3) ((1 : Int32) + (p2 &&& (63 : Int32))))), .second, .unset, .unset, .val (.long (((1 : Int64) <<< ((((1 : Int32) + (p2 &&& (63 : Int32))) - (1 : Int32)) &&& 0x3f).toInt64))), .second] [])) t → Steps p.tables e below (s₁.setTop (mkF m 0 #[.val (.int p1), .val (.int p2), .val (.long q3), .second, .unset, .unset, .unset, .unset, .unset, .unset, .unset, .unset, .unset, .unset, .unset, .unset] [])) t := by
          intro t k
          refine R99 t ?_
          refine XS.ifYes X88.here hx rfl (pc0 := 154) (pc' := 162) rfl (hb hby at_154) rfl ((if0 _ _).trans (flt (mt (lw_lt _ _).mp he)).2.1) (by decide) (by decide) ?_
          exact k
        have R105 : ∀ t, Steps p.tables e below (T88.setTop (mkF m 176 #[.val (.int p1), .val (.int p2), .val (.long q3), .second, .val (.int (0 : Int32)), .val (.int (own_fl (p1 &&& (2 : Int32)))), .val (.int ((1 : Int32) + (p2 &&& (63 : Int32)))), .val (.long (own_pm ((1 : Int32) + (p2 &&& (63 : Int32))) q3)), .second, .val (.ref b1), .val (.long (own_val (0 : Int32) (own_pm ((1 : Int32) + (p2 &&& (63 : Int32))) q3) ((1 : Int32) + (p2 &&& (63 : Int32))))), .second, .val (.long ((own_pm ((1 : Int32) + (p2 &&& (63 : Int32))) q3) - (((1 : Int64) <<< (((1 : Int32) + (p2 &&& (63 : Int32))) &&& 0x3f).toInt64)))), .second, .val (.long (((1 : Int64) <<< ((((1 : Int32) + (p2 &&& (63 : Int32))) - (1 : Int32)) &&& 0x3f).toInt64))), .second] [(.int (lcmpW (own_val (0 : Int32) (own_pm ((1 : Int32) + (p2 &&& (63 : Int32))) q3) ((1 : Int32) + (p2 &&& (63 : Int32)))) ((own_pm ((1 : Int32) + (p2 &&& (63 : Int32))) q3) - (((1 : Int64) <<< (((1 : Int32) + (p2 &&& (63 : Int32))) &&& 0x3f).toInt64)))))])) t → Steps p.tables e below (s₁.setTop (mkF m 0 #[.val (.int p1), .val (.int p2), .val (.long q3), .second, .unset, .unset, .unset, .unset, .unset, .unset, .unset, .unset, .unset, .unset, .unset, .unset] [])) t := by
          intro t k
          refine R104 t ?_
          refine XS.lload X88.here hx rfl (hb hby at_162) rfl ?_
          refine XS.lconst X88.here hx rfl (hb hby at_164) ?_
          refine XS.iload X88.here hx rfl (hb hby at_165) rfl ?_
          refine XS.lshl X88.here hx rfl (hb hby at_167) rfl ?_
          refine XS.lsub X88.here hx rfl (hb hby at_168) rfl ?_
          refine XS.lstore X88.here hx rfl (hb hby at_169) rfl (l' := #[.val (.int p1), .val (.int p2), .val (.long q3), .second, .val (.int (0 : Int32)), .val (.int (own_fl (p1 &&& (2 : Int32)))), .val (.int ((1 : Int32) + (p2 &&& (63 : Int32)))), .val (.long (own_pm ((1 : Int32) + (p2 &&& (63 : Int32))) q3)), .second, .val (.ref b1), .val (.long (own_val (0 : Int32) (own_pm ((1 : Int32) + (p2 &&& (63 : Int32))) q3) ((1 : Int32) + (p2 &&& (63 : Int32))))), .second, .val (.long ((own_pm ((1 : Int32) + (p2 &&& (63 : Int32))) q3) - (((1 : Int64) <<< (((1 : Int32) + (p2 &&& (63 : Int32))) &&& 0x3f).toInt64)))), .second, .val (.long (((1 : Int64) <<< ((((1 : Int32) + (p2 &&& (63 : Int32))) - (1 : Int32)) &&& 0x3f).toInt64))), .second]) rfl ?_
          refine XS.lload X88.here hx rfl (hb hby at_171) rfl ?_
          refine XS.lload X88.here hx rfl (hb hby at_173) rfl ?_
          refine XS.lcmp X88.here hx rfl (hb hby at_175) rfl ?_
          exact k
        have R106 : ∀ t, Steps p.tables e below (T88.setTop (mkF m 179 #[.val (.int p1), .val (.int p2), .val (.long q3), .second, .val (.int (0 : Int32)), .val (.int (own_fl (p1 &&& (2 : Int32)))), .val (.int ((1 : Int32) + (p2 &&& (63 : Int32)))), .val (.long (own_pm ((1 : Int32) + (p2 &&& (63 : Int32))) q3)), .second, .val (.ref b1), .val (.long (own_val (0 : Int32) (own_pm ((1 : Int32) + (p2 &&& (63 : Int32))) q3) ((1 : Int32) + (p2 &&& (63 : Int32))))), .second, .val (.long ((own_pm ((1 : Int32) + (p2 &&& (63 : Int32))) q3) - (((1 : Int64) <<< (((1 : Int32) + (p2 &&& (63 : Int32))) &&& 0x3f).toInt64)))), .second, .val (.long (((1 : Int64) <<< ((((1 : Int32) + (p2 &&& (63 : Int32))) - (1 : Int32)) &&& 0x3f).toInt64))), .second] [])) t → Steps p.tables e below (s₁.setTop (mkF m 0 #[.val (.int p1), .val (.int p2), .val (.long q3), .second, .unset, .unset, .unset, .unset, .unset, .unset, .unset, .unset, .unset, .unset, .unset, .unset] [])) t := by
          intro t k
          refine R105 t ?_
          refine XS.ifNo X88.here hx rfl (hb hby at_176) rfl ((if0 _ _).trans (teq ((lw_eq _ _).mpr (own_lawD p2 q3 hd he))).2) ?_
          exact k
        have R107 : ∀ t, Steps p.tables e below (T88.setTop (mkF m 184 #[.val (.int p1), .val (.int p2), .val (.long q3), .second, .val (.int (0 : Int32)), .val (.int (own_fl (p1 &&& (2 : Int32)))), .val (.int ((1 : Int32) + (p2 &&& (63 : Int32)))), .val (.long (own_pm ((1 : Int32) + (p2 &&& (63 : Int32))) q3)), .second, .val (.ref b1), .val (.long (own_val (0 : Int32) (own_pm ((1 : Int32) + (p2 &&& (63 : Int32))) q3) ((1 : Int32) + (p2 &&& (63 : Int32))))), .second, .val (.long ((own_pm ((1 : Int32) + (p2 &&& (63 : Int32))) q3) - (((1 : Int64) <<< (((1 : Int32) + (p2 &&& (63 : Int32))) &&& 0x3f).toInt64)))), .second, .val (.long (((1 : Int64) <<< ((((1 : Int32) + (p2 &&& (63 : Int32))) - (1 : Int32)) &&& 0x3f).toInt64))), .second] [(.int (1 : Int32))])) t → Steps p.tables e below (s₁.setTop (mkF m 0 #[.val (.int p1), .val (.int p2), .val (.long q3), .second, .unset, .unset, .unset, .unset, .unset, .unset, .unset, .unset, .unset, .unset, .unset, .unset] [])) t := by
          intro t k
          refine R106 t ?_
          refine XS.iconst X88.here hx rfl (hb hby at_179) ?_
          refine XS.goto X88.here hx rfl (pc0 := 180) (pc' := 184) rfl (hb hby at_180) (by decide) (by decide) ?_
          exact k
        obtain ⟨fs, hr, hrun, hended, hv1, hv2, hv3, hv4⟩ := X88.leaveW hS77 (by rw [show T88.heap = T84.heap from e88]; exact Y84) (v := some (.int (1 : Int32))) (fun h => by rw [Bd.returns] at h; cases h)
        refine ⟨_, _, pre0 _ (R107 _ (retN X88 hx (t := .boolean) Bd.returns (by simp) (hb hby at_184) hr)), hrun, hended, _, _, rfl, ?_, hv1, hv2, hv3, hv4.mono (by decide) (by decide)⟩
        show Q_rm0 Z p1 p2 q3  h0 n0 _ T88.heap _
        rw [e88]
        exact ⟨rfl, N88⟩
  · have R108 : ∀ t, Steps p.tables e below (s₁.setTop (mkF m 6 #[.val (.int p1), .val (.int p2), .val (.long q3), .second, .unset, .unset, .unset, .unset, .unset, .unset, .unset, .unset, .unset, .unset, .unset, .unset] [])) t → Steps p.tables e below (s₁.setTop (mkF m 0 #[.val (.int p1), .val (.int p2), .val (.long q3), .second, .unset, .unset, .unset, .unset, .unset, .unset, .unset, .unset, .unset, .unset, .unset, .unset] [])) t := by
      intro t k
      refine R53 t ?_
      refine XS.ifNo X0.here hx rfl (hb hby at_3) rfl ((if0 _ _).trans (feq hc).1) ?_
      exact k
    have R109 : ∀ t, Steps p.tables e below (s₁.setTop (mkF m 16 #[.val (.int p1), .val (.int p2), .val (.long q3), .second, .val (.int (1 : Int32)), .unset, .unset, .unset, .unset, .unset, .unset, .unset, .unset, .unset, .unset, .unset] [(.int (p1 &&& (2 : Int32)))])) t → Steps p.tables e below (s₁.setTop (mkF m 0 #[.val (.int p1), .val (.int p2), .val (.long q3), .second, .unset, .unset, .unset, .unset, .unset, .unset, .unset, .unset, .unset, .unset, .unset, .unset] [])) t := by
      intro t k
      refine R108 t ?_
      refine XS.iconst X0.here hx rfl (hb hby at_6) ?_
      refine XS.goto X0.here hx rfl (pc0 := 7) (pc' := 11) rfl (hb hby at_7) (by decide) (by decide) ?_
      refine XS.istore X0.here hx rfl (hb hby at_11) rfl (l' := #[.val (.int p1), .val (.int p2), .val (.long q3), .second, .val (.int (1 : Int32)), .unset, .unset, .unset, .unset, .unset, .unset, .unset, .unset, .unset, .unset, .unset]) rfl ?_
      refine XS.iloadN X0.here hx rfl (hb hby at_13) rfl ?_
      refine XS.iconst X0.here hx rfl (hb hby at_14) ?_
      refine XS.iand X0.here hx rfl (hb hby at_15) rfl ?_
      exact k
    have R110 : ∀ t, Steps p.tables e below (s₁.setTop (mkF m 26 #[.val (.int p1), .val (.int p2), .val (.long q3), .second, .val (.int (1 : Int32)), .val (.int (own_fl (p1 &&& (2 : Int32)))), .unset, .unset, .unset, .unset, .unset, .unset, .unset, .unset, .unset, .unset] [])) t → Steps p.tables e below (s₁.setTop (mkF m 0 #[.val (.int p1), .val (.int p2), .val (.long q3), .second, .unset, .unset, .unset, .unset, .unset, .unset, .unset, .unset, .unset, .unset, .unset, .unset] [])) t := by
      intro t k
      by_cases hd : (p1 &&& (2 : Int32)) = (0 : Int32)
      · rw [show own_fl (p1 &&& (2 : Int32)) = 0 from if_pos hd] at k
        have R111 : ∀ t, Steps p.tables e below (s₁.setTop (mkF m 23 #[.val (.int p1), .val (.int p2), .val (.long q3), .second, .val (.int (1 : Int32)), .unset, .unset, .unset, .unset, .unset, .unset, .unset, .unset, .unset, .unset, .unset] [])) t → Steps p.tables e below (s₁.setTop (mkF m 0 #[.val (.int p1), .val (.int p2), .val (.long q3), .second, .unset, .unset, .unset, .unset, .unset, .unset, .unset, .unset, .unset, .unset, .unset, .unset] [])) t := by
          intro t k
          refine R109 t ?_
          refine XS.ifYes X0.here hx rfl (pc0 := 16) (pc' := 23) rfl (hb hby at_16) rfl ((if0 _ _).trans (teq hd).1) (by decide) (by decide) ?_
          exact k
        have R112 : ∀ t, Steps p.tables e below (s₁.setTop (mkF m 26 #[.val (.int p1), .val (.int p2), .val (.long q3), .second, .val (.int (1 : Int32)), .val (.int (0 : Int32)), .unset, .unset, .unset, .unset, .unset, .unset, .unset, .unset, .unset, .unset] [])) t → Steps p.tables e below (s₁.setTop (mkF m 0 #[.val (.int p1), .val (.int p2), .val (.long q3), .second, .unset, .unset, .unset, .unset, .unset, .unset, .unset, .unset, .unset, .unset, .unset, .unset] [])) t := by
          intro t k
          refine R111 t ?_
          refine XS.iconst X0.here hx rfl (hb hby at_23) ?_
          refine XS.istore X0.here hx rfl (hb hby at_24) rfl (l' := #[.val (.int p1), .val (.int p2), .val (.long q3), .second, .val (.int (1 : Int32)), .val (.int (0 : Int32)), .unset, .unset, .unset, .unset, .unset, .unset, .unset, .unset, .unset, .unset]) rfl ?_
          exact k
        exact R112 t k
      · rw [show own_fl (p1 &&& (2 : Int32)) = 1 from if_neg hd] at k
        have R113 : ∀ t, Steps p.tables e below (s₁.setTop (mkF m 19 #[.val (.int p1), .val (.int p2), .val (.long q3), .second, .val (.int (1 : Int32)), .unset, .unset, .unset, .unset, .unset, .unset, .unset, .unset, .unset, .unset, .unset] [])) t → Steps p.tables e below (s₁.setTop (mkF m 0 #[.val (.int p1), .val (.int p2), .val (.long q3), .second, .unset, .unset, .unset, .unset, .unset, .unset, .unset, .unset, .unset, .unset, .unset, .unset] [])) t := by
          intro t k
          refine R109 t ?_
          refine XS.ifNo X0.here hx rfl (hb hby at_16) rfl ((if0 _ _).trans (feq hd).1) ?_
          exact k
        have R114 : ∀ t, Steps p.tables e below (s₁.setTop (mkF m 26 #[.val (.int p1), .val (.int p2), .val (.long q3), .second, .val (.int (1 : Int32)), .val (.int (1 : Int32)), .unset, .unset, .unset, .unset, .unset, .unset, .unset, .unset, .unset, .unset] [])) t → Steps p.tables e below (s₁.setTop (mkF m 0 #[.val (.int p1), .val (.int p2), .val (.long q3), .second, .unset, .unset, .unset, .unset, .unset, .unset, .unset, .unset, .unset, .unset, .unset, .unset] [])) t := by
          intro t k
          refine R113 t ?_
          refine XS.iconst X0.here hx rfl (hb hby at_19) ?_
          refine XS.goto X0.here hx rfl (pc0 := 20) (pc' := 24) rfl (hb hby at_20) (by decide) (by decide) ?_
          refine XS.istore X0.here hx rfl (hb hby at_24) rfl (l' := #[.val (.int p1), .val (.int p2), .val (.long q3), .second, .val (.int (1 : Int32)), .val (.int (1 : Int32)), .unset, .unset, .unset, .unset, .unset, .unset, .unset, .unset, .unset, .unset]) rfl ?_
          exact k
        exact R114 t k
    have R115 : ∀ t, Steps p.tables e below (s₁.setTop (mkF m 36 #[.val (.int p1), .val (.int p2), .val (.long q3), .second, .val (.int (1 : Int32)), .val (.int (own_fl (p1 &&& (2 : Int32)))), .val (.int ((1 : Int32) + (p2 &&& (63 : Int32)))), .unset, .unset, .unset, .unset, .unset, .unset, .unset, .unset, .unset] [(.int (1 : Int32))])) t → Steps p.tables e below (s₁.setTop (mkF m 0 #[.val (.int p1), .val (.int p2), .val (.long q3), .second, .unset, .unset, .unset, .unset, .unset, .unset, .unset, .unset, .unset, .unset, .unset, .unset] [])) t := by
      intro t k
      refine R110 t ?_
      refine XS.iconst X0.here hx rfl (hb hby at_26) ?_
      refine XS.iloadN X0.here hx rfl (hb hby at_27) rfl ?_
      refine XS.bipush X0.here hx rfl (hb hby at_28) ?_
      refine XS.iand X0.here hx rfl (hb hby at_30) rfl ?_
      refine XS.iadd X0.here hx rfl (hb hby at_31) rfl ?_
      refine XS.istore X0.here hx rfl (hb hby at_32) rfl (l' := #[.val (.int p1), .val (.int p2), .val (.long q3), .second, .val (.int (1 : Int32)), .val (.int (own_fl (p1 &&& (2 : Int32)))), .val (.int ((1 : Int32) + (p2 &&& (63 : Int32)))), .unset, .unset, .unset, .unset, .unset, .unset, .unset, .unset, .unset]) rfl ?_
      refine XS.iload X0.here hx rfl (hb hby at_34) rfl ?_
      exact k
    have R116 : ∀ t, Steps p.tables e below (s₁.setTop (mkF m 39 #[.val (.int p1), .val (.int p2), .val (.long q3), .second, .val (.int (1 : Int32)), .val (.int (own_fl (p1 &&& (2 : Int32)))), .val (.int ((1 : Int32) + (p2 &&& (63 : Int32)))), .unset, .unset, .unset, .unset, .unset, .unset, .unset, .unset, .unset] [])) t → Steps p.tables e below (s₁.setTop (mkF m 0 #[.val (.int p1), .val (.int p2), .val (.long q3), .second, .unset, .unset, .unset, .unset, .unset, .unset, .unset, .unset, .unset, .unset, .unset, .unset] [])) t := by
      intro t k
      refine R115 t ?_
      refine XS.ifNo X0.here hx rfl (hb hby at_36) rfl ((if0 _ _).trans (feq (by decide)).1) ?_
      exact k
    have R117 : ∀ t, Steps p.tables e below (s₁.setTop (mkF m 49 #[.val (.int p1), .val (.int p2), .val (.long q3), .second, .val (.int (1 : Int32)), .val (.int (own_fl (p1 &&& (2 : Int32)))), .val (.int ((1 : Int32) + (p2 &&& (63 : Int32)))), .unset, .unset, .val (.long (((1 : Int64) <<< ((((1 : Int32) + (p2 &&& (63 : Int32))) - (1 : Int32)) &&& 0x3f).toInt64))), .second, .unset, .unset, .unset, .unset, .unset] [(.int (own_fl (p1 &&& (2 : Int32))))])) t → Steps p.tables e below (s₁.setTop (mkF m 0 #[.val (.int p1), .val (.int p2), .val (.long q3), .second, .unset, .unset, .unset, .unset, .unset, .unset, .unset, .unset, .unset, .unset, .unset, .unset] [])) t := by
      intro t k
      refine R116 t ?_
      refine XS.lconst X0.here hx rfl (hb hby at_39) ?_
      refine XS.iload X0.here hx rfl (hb hby at_40) rfl ?_
      refine XS.iconst X0.here hx rfl (hb hby at_42) ?_
      refine XS.isub X0.here hx rfl (hb hby at_43) rfl ?_
      refine XS.lshl X0.here hx rfl (hb hby at_44) rfl ?_
      refine XS.lstore X0.here hx rfl (hb hby at_45) rfl (l' := #[.val (.int p1), .val (.int p2), .val (.long q3), .second, .val (.int (1 : Int32)), .val (.int (own_fl (p1 &&& (2 : Int32)))), .val (.int ((1 : Int32) + (p2 &&& (63 : Int32)))), .unset, .unset, .val (.long (((1 : Int64) <<< ((((1 : Int32) + (p2 &&& (63 : Int32))) - (1 : Int32)) &&& 0x3f).toInt64))), .second, .unset, .unset, .unset, .unset, .unset]) rfl ?_
      refine XS.iload X0.here hx rfl (hb hby at_47) rfl ?_
      exact k
    have R118 : ∀ t, Steps p.tables e below (s₁.setTop (mkF m 63 #[.val (.int p1), .val (.int p2), .val (.long q3), .second, .val (.int (1 : Int32)), .val (.int (own_fl (p1 &&& (2 : Int32)))), .val (.int ((1 : Int32) + (p2 &&& (63 : Int32)))), .unset, .unset, .val (.long (((1 : Int64) <<< ((((1 : Int32) + (p2 &&& (63 : Int32))) - (1 : Int32)) &&& 0x3f).toInt64))), .second, .unset, .unset, .unset, .unset, .unset] [(.long (own_nm (own_fl (p1 &&& (2 : Int32))) ((1 : Int32) + (p2 &&& (63 : Int32))) q3))])) t → Steps p.tables e below (s₁.setTop (mkF m 0 #[.val (.int p1), .val (.int p2), .val (.long q3), .second, .unset, .unset, .unset, .unset, .unset, .unset, .unset, .unset, .unset, .unset, .unset, .unset] [])) t := by
      intro t k
      by_cases hd : (own_fl (p1 &&& (2 : Int32))) = (0 : Int32)
      · rw [show (own_nm (own_fl (p1 &&& (2 : Int32))) ((1 : Int32) + (p2 &&& (63 : Int32))) q3) = (q3 &&& (((1 : Int64) <<< ((((1 : Int32) + (p2 &&& (63 : Int32))) - (1 : Int32)) &&& 0x3f).toInt64) - (1 : Int64))) from if_pos hd] at k
        have R119 : ∀ t, Steps p.tables e below (s₁.setTop (mkF m 57 #[.val (.int p1), .val (.int p2), .val (.long q3), .second, .val (.int (1 : Int32)), .val (.int (own_fl (p1 &&& (2 : Int32)))), .val (.int ((1 : Int32) + (p2 &&& (63 : Int32)))), .unset, .unset, .val (.long (((1 : Int64) <<< ((((1 : Int32) + (p2 &&& (63 : Int32))) - (1 : Int32)) &&& 0x3f).toInt64))), .second, .unset, .unset, .unset, .unset, .unset] [])) t → Steps p.tables e below (s₁.setTop (mkF m 0 #[.val (.int p1), .val (.int p2), .val (.long q3), .second, .unset, .unset, .unset, .unset, .unset, .unset, .unset, .unset, .unset, .unset, .unset, .unset] [])) t := by
          intro t k
          refine R117 t ?_
          refine XS.ifYes X0.here hx rfl (pc0 := 49) (pc' := 57) rfl (hb hby at_49) rfl ((if0 _ _).trans (teq hd).1) (by decide) (by decide) ?_
          exact k
        have R120 : ∀ t, Steps p.tables e below (s₁.setTop (mkF m 63 #[.val (.int p1), .val (.int p2), .val (.long q3), .second, .val (.int (1 : Int32)), .val (.int (own_fl (p1 &&& (2 : Int32)))), .val (.int ((1 : Int32) + (p2 &&& (63 : Int32)))), .unset, .unset, .val (.long (((1 : Int64) <<< ((((1 : Int32) + (p2 &&& (63 : Int32))) - (1 : Int32)) &&& 0x3f).toInt64))), .second, .unset, .unset, .unset, .unset, .unset] [(.long (q3 &&& ((((1 : Int64) <<< ((((1 : Int32) + (p2 &&& (63 : Int32))) - (1 : Int32)) &&& 0x3f).toInt64)) - (1 : Int64))))])) t → Steps p.tables e below (s₁.setTop (mkF m 0 #[.val (.int p1), .val (.int p2), .val (.long q3), .second, .unset, .unset, .unset, .unset, .unset, .unset, .unset, .unset, .unset, .unset, .unset, .unset] [])) t := by
          intro t k
          refine R119 t ?_
          refine XS.lloadN X0.here hx rfl (hb hby at_57) rfl ?_
          refine XS.lload X0.here hx rfl (hb hby at_58) rfl ?_
          refine XS.lconst X0.here hx rfl (hb hby at_60) ?_
          refine XS.lsub X0.here hx rfl (hb hby at_61) rfl ?_
          refine XS.land X0.here hx rfl (hb hby at_62) rfl ?_
          exact k
        exact R120 t k
      · rw [show (own_nm (own_fl (p1 &&& (2 : Int32))) ((1 : Int32) + (p2 &&& (63 : Int32))) q3) = ((1 : Int64) <<< ((((1 : Int32) + (p2 &&& (63 : Int32))) - (1 : Int32)) &&& 0x3f).toInt64) from if_neg hd] at k
        have R121 : ∀ t, Steps p.tables e below (s₁.setTop (mkF m 52 #[.val (.int p1), .val (.int p2), .val (.long q3), .second, .val (.int (1 : Int32)), .val (.int (own_fl (p1 &&& (2 : Int32)))), .val (.int ((1 : Int32) + (p2 &&& (63 : Int32)))), .unset, .unset, .val (.long (((1 : Int64) <<< ((((1 : Int32) + (p2 &&& (63 : Int32))) - (1 : Int32)) &&& 0x3f).toInt64))), .second, .unset, .unset, .unset, .unset, .unset] [])) t → Steps p.tables e below (s₁.setTop (mkF m 0 #[.val (.int p1), .val (.int p2), .val (.long q3), .second, .unset, .unset, .unset, .unset, .unset, .unset, .unset, .unset, .unset, .unset, .unset, .unset] [])) t := by
          intro t k
          refine R117 t ?_
          refine XS.ifNo X0.here hx rfl (hb hby at_49) rfl ((if0 _ _).trans (feq hd).1) ?_
          exact k
        have R122 : ∀ t, Steps p.tables e below (s₁.setTop (mkF m 63 #[.val (.int p1), .val (.int p2), .val (.long q3), .second, .val (.int (1 : Int32)), .val (.int (own_fl (p1 &&& (2 : Int32)))), .val (.int ((1 : Int32) + (p2 &&& (63 : Int32)))), .unset, .unset, .val (.long (((1 : Int64) <<< ((((1 : Int32) + (p2 &&& (63 : Int32))) - (1 : Int32)) &&& 0x3f).toInt64))), .second, .unset, .unset, .unset, .unset, .unset] [(.long (((1 : Int64) <<< ((((1 : Int32) + (p2 &&& (63 : Int32))) - (1 : Int32)) &&& 0x3f).toInt64)))])) t → Steps p.tables e below (s₁.setTop (mkF m 0 #[.val (.int p1), .val (.int p2), .val (.long q3), .second, .unset, .unset, .unset, .unset, .unset, .unset, .unset, .unset, .unset, .unset, .unset, .unset] [])) t := by
          intro t k
          refine R121 t ?_
          refine XS.lload X0.here hx rfl (hb hby at_52) rfl ?_
          refine XS.goto X0.here hx rfl (pc0 := 54) (pc' := 63) rfl (hb hby at_54) (by decide) (by decide) ?_
          exact k
        exact R122 t k
    have R123 : ∀ t, Steps p.tables e below (s₁.setTop (mkF m 89 #[.val (.int p1), .val (.int p2), .val (.long q3), .second, .val (.int (1 : Int32)), .val (.int (own_fl (p1 &&& (2 : Int32)))), .val (.int ((1 : Int32) + (p2 &&& (63 : Int32)))), .val (.long (own_nm (own_fl (p1 &&& (2 : Int32))) ((1 : Int32) + (p2 &&& (63 : Int32))) q3)), .second, .val (.long (((1 : Int64) <<< ((((1 : Int32) + (p2 &&& (63 : Int32))) - (1 : Int32)) &&& 0x3f).toInt64))), .second, .unset, .unset, .unset, .unset, .unset] [])) t → Steps p.tables e below (s₁.setTop (mkF m 0 #[.val (.int p1), .val (.int p2), .val (.long q3), .second, .unset, .unset, .unset, .unset, .unset, .unset, .unset, .unset, .unset, .unset, .unset, .unset] [])) t := by
      intro t k
      refine R118 t ?_
      refine XS.lstore X0.here hx rfl (hb hby at_63) rfl (l' := #[.val (.int p1), .val (.int p2), .val (.long q3), .second, .val (.int (1 : Int32)), .val (.int (own_fl (p1 &&& (2 : Int32)))), .val (.int ((1 : Int32) + (p2 &&& (63 : Int32)))), .val (.long (own_nm (own_fl (p1 &&& (2 : Int32))) ((1 : Int32) + (p2 &&& (63 : Int32))) q3)), .second, .val (.long (((1 : Int64) <<< ((((1 : Int32) + (p2 &&& (63 : Int32))) - (1 : Int32)) &&& 0x3f).toInt64))), .second, .unset, .unset, .unset, .unset, .unset]) rfl ?_
      refine XS.goto X0.here hx rfl (pc0 := 65) (pc' := 89) rfl (hb hby at_65) (by decide) (by decide) ?_
      exact k
    obtain ⟨T124, h124, X124, e124, x124, A124, D124, -, st124⟩ := newO X0 hx hZ hown (hw _ (List.mem_of_getElem? (i := 0) rfl)) (hw _ (List.mem_of_getElem? (i := 1) rfl)) (hw _ (List.mem_of_getElem? (i := 2) rfl)) e0 (g := (mkF m 89 #[.val (.int p1), .val (.int p2), .val (.long q3), .second, .val (.int (1 : Int32)), .val (.int (own_fl (p1 &&& (2 : Int32)))), .val (.int ((1 : Int32) + (p2 &&& (63 : Int32)))), .val (.long (own_nm (own_fl (p1 &&& (2 : Int32))) ((1 : Int32) + (p2 &&& (63 : Int32))) q3)), .second, .val (.long (((1 : Int64) <<< ((((1 : Int32) + (p2 &&& (63 : Int32))) - (1 : Int32)) &&& 0x3f).toInt64))), .second, .unset, .unset, .unset, .unset, .unset] [])) rfl (hb hby at_89) (by decide) (by decide)
    obtain ⟨b1, g_b1⟩ : ∃ z, z = h0.size := ⟨_, rfl⟩
    rw [← g_b1] at A124 D124 st124
    have n_b1 : n0 ≤ b1 := Nat.le_trans Z0 (Nat.le_of_eq g_b1.symm)
    have Z124 : n0 ≤ h124.size := Nat.le_trans Z0 x124.1
    have F_125 : Fld Z h124 b1 "com/example/rigorous_bytecode/rigorousbytecode/text/TextScanner$IntegerLiteral" "negative" "Z" (.int (0 : Int32)) := D124 (Or.inr (hw _ (List.mem_of_getElem? (i := 23) rfl))) (ty := .boolean) (by decide)
    have F_126 : Fld Z h124 b1 "com/example/rigorous_bytecode/rigorousbytecode/text/TextScanner$IntegerLiteral" "magnitude" "J" (.long (0 : Int64)) := D124 (Or.inr (hw _ (List.mem_of_getElem? (i := 25) rfl))) (ty := .long) (by decide)
    have F_127 : Fld Z h124 b1 "com/example/rigorous_bytecode/rigorousbytecode/text/TextScanner$IntegerLiteral" "suffixWidth" "I" (.int (0 : Int32)) := D124 (Or.inr (hw _ (List.mem_of_getElem? (i := 27) rfl))) (ty := .int) (by decide)
    have F_128 : Fld Z h124 b1 "com/example/rigorous_bytecode/rigorousbytecode/text/TextScanner$IntegerLiteral" "spelling" "Ljava/lang/String;" .null := D124 (Or.inr (hw _ (List.mem_of_getElem? (i := 29) rfl))) (ty := (.object "java/lang/String")) (by decide)
    have R129 : ∀ t, Steps p.tables e below (T124.setTop (mkF m 92 #[.val (.int p1), .val (.int p2), .val (.long q3), .second, .val (.int (1 : Int32)), .val (.int (own_fl (p1 &&& (2 : Int32)))), .val (.int ((1 : Int32) + (p2 &&& (63 : Int32)))), .val (.long (own_nm (own_fl (p1 &&& (2 : Int32))) ((1 : Int32) + (p2 &&& (63 : Int32))) q3)), .second, .val (.long (((1 : Int64) <<< ((((1 : Int32) + (p2 &&& (63 : Int32))) - (1 : Int32)) &&& 0x3f).toInt64))), .second, .unset, .unset, .unset, .unset, .unset] [(.ref b1)])) t → Steps p.tables e below (s₁.setTop (mkF m 0 #[.val (.int p1), .val (.int p2), .val (.long q3), .second, .unset, .unset, .unset, .unset, .unset, .unset, .unset, .unset, .unset, .unset, .unset, .unset] [])) t := fun t k => R123 t (st124 _ k)
    have R130 : ∀ t, Steps p.tables e below (T124.setTop (mkF m 98 #[.val (.int p1), .val (.int p2), .val (.long q3), .second, .val (.int (1 : Int32)), .val (.int (own_fl (p1 &&& (2 : Int32)))), .val (.int ((1 : Int32) + (p2 &&& (63 : Int32)))), .val (.long (own_nm (own_fl (p1 &&& (2 : Int32))) ((1 : Int32) + (p2 &&& (63 : Int32))) q3)), .second, .val (.long (((1 : Int64) <<< ((((1 : Int32) + (p2 &&& (63 : Int32))) - (1 : Int32)) &&& 0x3f).toInt64))), .second, .unset, .unset, .unset, .unset, .unset] [(.int (0 : Int32)), (.long (own_nm (own_fl (p1 &&& (2 : Int32))) ((1 : Int32) + (p2 &&& (63 : Int32))) q3)), (.int (1 : Int32)), (.ref b1), (.ref b1)])) t → Steps p.tables e below (s₁.setTop (mkF m 0 #[.val (.int p1), .val (.int p2), .val (.long q3), .second, .unset, .unset, .unset, .unset, .unset, .unset, .unset, .unset, .unset, .unset, .unset, .unset] [])) t := by
      intro t k
      refine R129 t ?_
      refine XS.dup X124.here hx rfl (hb hby at_92) rfl rfl ?_
      refine XS.iload X124.here hx rfl (hb hby at_93) rfl ?_
      refine XS.lload X124.here hx rfl (hb hby at_95) rfl ?_
      refine XS.iconst X124.here hx rfl (hb hby at_97) ?_
      exact k
    have hS131 : s.Since s.vm 0 := (State.WarmedH.refl s).since 0
    obtain ⟨aStr, T131, h131, k131, X131, e131, x131, hS131, hk131, hZ131, ho131, st131⟩ := ldcS (s := s) (vm0 := s.vm) X124 hx hZ hown (hw _ (List.mem_of_getElem? (i := 3) rfl)) (own_wS hw) e124 hS131 (Nat.zero_le _) (g := (mkF m 98 #[.val (.int p1), .val (.int p2), .val (.long q3), .second, .val (.int (1 : Int32)), .val (.int (own_fl (p1 &&& (2 : Int32)))), .val (.int ((1 : Int32) + (p2 &&& (63 : Int32)))), .val (.long (own_nm (own_fl (p1 &&& (2 : Int32))) ((1 : Int32) + (p2 &&& (63 : Int32))) q3)), .second, .val (.long (((1 : Int64) <<< ((((1 : Int32) + (p2 &&& (63 : Int32))) - (1 : Int32)) &&& 0x3f).toInt64))), .second, .unset, .unset, .unset, .unset, .unset] [(.int (0 : Int32)), (.long (own_nm (own_fl (p1 &&& (2 : Int32))) ((1 : Int32) + (p2 &&& (63 : Int32))) q3)), (.int (1 : Int32)), (.ref b1), (.ref b1)])) rfl (hb hby at_98) (n := 4) (by decide) (by decide) (by decide) (by decide)
    have Z131 : n0 ≤ h131.size := Nat.le_trans Z124 x131.1
    have E_132 : Exa Z h131 b1 "com/example/rigorous_bytecode/rigorousbytecode/text/TextScanner$IntegerLiteral" := A124.ext x131
    have F_133 : Fld Z h131 b1 "com/example/rigorous_bytecode/rigorousbytecode/text/TextScanner$IntegerLiteral" "negative" "Z" (.int (0 : Int32)) := F_125.ext x131
    have F_134 : Fld Z h131 b1 "com/example/rigorous_bytecode/rigorousbytecode/text/TextScanner$IntegerLiteral" "magnitude" "J" (.long (0 : Int64)) := F_126.ext x131
    have F_135 : Fld Z h131 b1 "com/example/rigorous_bytecode/rigorousbytecode/text/TextScanner$IntegerLiteral" "suffixWidth" "I" (.int (0 : Int32)) := F_127.ext x131
    have F_136 : Fld Z h131 b1 "com/example/rigorous_bytecode/rigorousbytecode/text/TextScanner$IntegerLiteral" "spelling" "Ljava/lang/String;" .null := F_128.ext x131
    have R137 : ∀ t, Steps p.tables e below (T131.setTop (mkF m 100 #[.val (.int p1), .val (.int p2), .val (.long q3), .second, .val (.int (1 : Int32)), .val (.int (own_fl (p1 &&& (2 : Int32)))), .val (.int ((1 : Int32) + (p2 &&& (63 : Int32)))), .val (.long (own_nm (own_fl (p1 &&& (2 : Int32))) ((1 : Int32) + (p2 &&& (63 : Int32))) q3)), .second, .val (.long (((1 : Int64) <<< ((((1 : Int32) + (p2 &&& (63 : Int32))) - (1 : Int32)) &&& 0x3f).toInt64))), .second, .unset, .unset, .unset, .unset, .unset] [(.ref aStr), (.int (0 : Int32)), (.long (own_nm (own_fl (p1 &&& (2 : Int32))) ((1 : Int32) + (p2 &&& (63 : Int32))) q3)), (.int (1 : Int32)), (.ref b1), (.ref b1)])) t → Steps p.tables e below (s₁.setTop (mkF m 0 #[.val (.int p1), .val (.int p2), .val (.long q3), .second, .unset, .unset, .unset, .unset, .unset, .unset, .unset, .unset, .unset, .unset, .unset, .unset] [])) t := fun t k => R130 t (st131 _ k)
    obtain ⟨_, _, ⟨T138, L138, k138, n138⟩, -, X138, ⟨Lc138, hQ138, l138, y138, z138⟩, st138⟩ := X131.specialBack hx (y := (⟨"com/example/rigorous_bytecode/rigorousbytecode/text/TextScanner$IntegerLiteral", "<init>", "(ZJILjava/lang/String;)V"⟩ : MethodName)) rfl ho131 (mvT hZ131 (hw _ (List.mem_of_getElem? (i := 11) rfl))) (mvT hZ131 (hw _ (List.mem_of_getElem? (i := 12) rfl))) (mvT hZ131 (hw _ (List.mem_of_getElem? (i := 13) rfl))) (by decide) (backOf (W := 1) (rm1 l Z a0 hw [] b1 (1 : Int32) (own_nm (own_fl (p1 &&& (2 : Int32))) ((1 : Int32) + (p2 &&& (63 : Int32))) q3) (0 : Int32) aStr (.int (0 : Int32)) (.long (0 : Int64)) (.int (0 : Int32)) .null h131 n0 Z131 E_132 F_133 F_134 F_135 F_136 n_b1 (by decide)) hZ131 (hw _ (List.mem_of_getElem? (i := 13) rfl)) (hw _ (List.mem_of_getElem? (i := 2) rfl)) (by decide) (by decide)) (g := (mkF m 100 #[.val (.int p1), .val (.int p2), .val (.long q3), .second, .val (.int (1 : Int32)), .val (.int (own_fl (p1 &&& (2 : Int32)))), .val (.int ((1 : Int32) + (p2 &&& (63 : Int32)))), .val (.long (own_nm (own_fl (p1 &&& (2 : Int32))) ((1 : Int32) + (p2 &&& (63 : Int32))) q3)), .second, .val (.long (((1 : Int64) <<< ((((1 : Int32) + (p2 &&& (63 : Int32))) - (1 : Int32)) &&& 0x3f).toInt64))), .second, .unset, .unset, .unset, .unset, .unset] [(.ref aStr), (.int (0 : Int32)), (.long (own_nm (own_fl (p1 &&& (2 : Int32))) ((1 : Int32) + (p2 &&& (63 : Int32))) q3)), (.int (1 : Int32)), (.ref b1), (.ref b1)])) rfl (by rw [hml]; rfl) (Steps.refl _) (a := b1) (argsL := [(.int (1 : Int32)), (.long (own_nm (own_fl (p1 &&& (2 : Int32))) ((1 : Int32) + (p2 &&& (63 : Int32))) q3)), (.int (0 : Int32)), (.ref aStr)]) (rest := [(.ref b1)]) (lenOf pd_1 rfl) rfl (by show 2 * 0 + _ ≤ _; exact Nat.le_of_eq rfl) (hb hby at_100) (fun _ _ => ⟨rfl, e131, (by decide : 3 + 0 ≤ _), (by decide : 12 + 0 ≤ _)⟩)
    dsimp only [Pt.U, Pt.locs, Pt.cells, Pt.slots] at X138 l138 y138 z138 st138 hQ138
    subst l138 y138 z138
    obtain ⟨rfl, M138, J138, Fa138, Fb138⟩ := hQ138
    have Z138 : n0 ≤ T138.heap.size := Nat.le_trans Z131 J138.1
    have Y138 : k131 ≤ T138.heap.size := Nat.le_trans hk131 J138.1
    have E_139 : Exa Z T138.heap b1 "com/example/rigorous_bytecode/rigorousbytecode/text/TextScanner$IntegerLiteral" := E_132.keep J138
    have N138 := Fr.app N0 M138
    have R140 : ∀ t, Steps p.tables e below (T138.setTop (mkF m 103 #[.val (.int p1), .val (.int p2), .val (.long q3), .second, .val (.int (1 : Int32)), .val (.int (own_fl (p1 &&& (2 : Int32)))), .val (.int ((1 : Int32) + (p2 &&& (63 : Int32)))), .val (.long (own_nm (own_fl (p1 &&& (2 : Int32))) ((1 : Int32) + (p2 &&& (63 : Int32))) q3)), .second, .val (.long (((1 : Int64) <<< ((((1 : Int32) + (p2 &&& (63 : Int32))) - (1 : Int32)) &&& 0x3f).toInt64))), .second, .unset, .unset, .unset, .unset, .unset] [(.ref b1)])) t → Steps p.tables e below (s₁.setTop (mkF m 0 #[.val (.int p1), .val (.int p2), .val (.long q3), .second, .unset, .unset, .unset, .unset, .unset, .unset, .unset, .unset, .unset, .unset, .unset, .unset] [])) t := fun t k => R137 t (st138.trans k)
    have R141 : ∀ t, Steps p.tables e below (T138.setTop (mkF m 109 #[.val (.int p1), .val (.int p2), .val (.long q3), .second, .val (.int (1 : Int32)), .val (.int (own_fl (p1 &&& (2 : Int32)))), .val (.int ((1 : Int32) + (p2 &&& (63 : Int32)))), .val (.long (own_nm (own_fl (p1 &&& (2 : Int32))) ((1 : Int32) + (p2 &&& (63 : Int32))) q3)), .second, .val (.ref b1), .unset, .unset, .unset, .unset, .unset, .unset] [(.int ((1 : Int32) + (p2 &&& (63 : Int32)))), (.ref b1)])) t → Steps p.tables e below (s₁.setTop (mkF m 0 #[.val (.int p1), .val (.int p2), .val (.long q3), .second, .unset, .unset, .unset, .unset, .unset, .unset, .unset, .unset, .unset, .unset, .unset, .unset] [])) t := by
      intro t k
      refine R140 t ?_
      refine XS.astore X138.here hx rfl (hb hby at_103) rfl rfl (l' := #[.val (.int p1), .val (.int p2), .val (.long q3), .second, .val (.int (1 : Int32)), .val (.int (own_fl (p1 &&& (2 : Int32)))), .val (.int ((1 : Int32) + (p2 &&& (63 : Int32)))), .val (.long (own_nm (own_fl (p1 &&& (2 : Int32))) ((1 : Int32) + (p2 &&& (63 : Int32))) q3)), .second, .val (.ref b1), .unset, .unset, .unset, .unset, .unset, .unset]) rfl ?_
      refine XS.aload X138.here hx rfl (hb hby at_105) rfl rfl ?_
      refine XS.iload X138.here hx rfl (hb hby at_107) rfl ?_
      exact k
    obtain ⟨_, _, q143a, q143b, q143c⟩ := isOf hZ131 rfl E_139
    obtain ⟨_, _, ⟨T142, L142, k142, n142⟩, -, X142, ⟨Lc142, hQ142, l142, y142, z142⟩, st142⟩ := X138.virtualBack hx (y := (⟨"com/example/rigorous_bytecode/rigorousbytecode/text/TextScanner$IntegerLiteral", "value", "(I)J"⟩ : MethodName)) (z := (⟨"com/example/rigorous_bytecode/rigorousbytecode/text/TextScanner$IntegerLiteral", "value", "(I)J"⟩ : MethodName)) ho131 (mvT hZ131 (hw _ (List.mem_of_getElem? (i := 30) rfl))) (mvT hZ131 (hw _ (List.mem_of_getElem? (i := 31) rfl))) (notFace_of_selects (args := #[]) (mvT hZ131 (hw _ (List.mem_of_getElem? (i := 33) rfl)))) (mvT hZ131 (hw _ (List.mem_of_getElem? (i := 33) rfl))) (mvT hZ131 (hw _ (List.mem_of_getElem? (i := 32) rfl))) (by decide) (backOf (W := 0) (rm4 l Z a0 hw [] b1 ((1 : Int32) + (p2 &&& (63 : Int32))) (1 : Int32) (own_nm (own_fl (p1 &&& (2 : Int32))) ((1 : Int32) + (p2 &&& (63 : Int32))) q3) T138.heap n0 Z138 Fa138 Fb138) hZ131 (hw _ (List.mem_of_getElem? (i := 34) rfl)) (hw _ (List.mem_of_getElem? (i := 2) rfl)) (by decide) (by decide)) q143a q143c (g := (mkF m 109 #[.val (.int p1), .val (.int p2), .val (.long q3), .second, .val (.int (1 : Int32)), .val (.int (own_fl (p1 &&& (2 : Int32)))), .val (.int ((1 : Int32) + (p2 &&& (63 : Int32)))), .val (.long (own_nm (own_fl (p1 &&& (2 : Int32))) ((1 : Int32) + (p2 &&& (63 : Int32))) q3)), .second, .val (.ref b1), .unset, .unset, .unset, .unset, .unset, .unset] [(.int ((1 : Int32) + (p2 &&& (63 : Int32)))), (.ref b1)])) rfl (by rw [hml]; rfl) (Steps.refl _) (argsL := [(.int ((1 : Int32) + (p2 &&& (63 : Int32))))]) (rest := []) (lenOf pd_2 rfl) rfl (by show 2 * 0 + _ ≤ _; exact Nat.le_of_eq rfl) (hb hby at_109) (fun _ _ => ⟨rfl, rfl, (by decide : 3 + 0 ≤ _), (by decide : 12 + 0 ≤ _)⟩)
    dsimp only [Pt.U, Pt.locs, Pt.cells, Pt.slots] at X142 l142 y142 z142 st142 hQ142
    subst l142 y142 z142
    obtain ⟨rfl, M142, e142⟩ := hQ142
    have N142 := Fr.app N138 M142
    have R144 : ∀ t, Steps p.tables e below (T142.setTop (mkF m 112 #[.val (.int p1), .val (.int p2), .val (.long q3), .second, .val (.int (1 : Int32)), .val (.int (own_fl (p1 &&& (2 : Int32)))), .val (.int ((1 : Int32) + (p2 &&& (63 : Int32)))), .val (.long (own_nm (own_fl (p1 &&& (2 : Int32))) ((1 : Int32) + (p2 &&& (63 : Int32))) q3)), .second, .val (.ref b1), .unset, .unset, .unset, .unset, .unset, .unset] [(.long (own_val (1 : Int32) (own_nm (own_fl (p1 &&& (2 : Int32))) ((1 : Int32) + (p2 &&& (63 : Int32))) q3) ((1 : Int32) + (p2 &&& (63 : Int32)))))])) t → Steps p.tables e below (s₁.setTop (mkF m 0 #[.val (.int p1), .val (.int p2), .val (.long q3), .second, .unset, .unset, .unset, .unset, .unset, .unset, .unset, .unset, .unset, .unset, .unset, .unset] [])) t := fun t k => R141 t (st142.trans k)
    have R145 : ∀ t, Steps p.tables e below (T142.setTop (mkF m 116 #[.val (.int p1), .val (.int p2), .val (.long q3), .second, .val (.int (1 : Int32)), .val (.int (own_fl (p1 &&& (2 : Int32)))), .val (.int ((1 : Int32) + (p2 &&& (63 : Int32)))), .val (.long (own_nm (own_fl (p1 &&& (2 : Int32))) ((1 : Int32) + (p2 &&& (63 : Int32))) q3)), .second, .val (.ref b1), .val (.long (own_val (1 : Int32) (own_nm (own_fl (p1 &&& (2 : Int32))) ((1 : Int32) + (p2 &&& (63 : Int32))) q3) ((1 : Int32) + (p2 &&& (63 : Int32))))), .second, .unset, .unset, .unset, .unset] [(.int (1 : Int32))])) t → Steps p.tables e below (s₁.setTop (mkF m 0 #[.val (.int p1), .val (.int p2), .val (.long q3), .second, .unset, .unset, .unset, .unset, .unset, .unset, .unset, .unset, .unset, .unset, .unset, .unset] [])) t := by
      intro t k
      refine R144 t ?_
      refine XS.lstore X142.here hx rfl (hb hby at_112) rfl (l' := #[.val (.int p1), .val (.int p2), .val (.long q3), .second, .val (.int (1 : Int32)), .val (.int (own_fl (p1 &&& (2 : Int32)))), .val (.int ((1 : Int32) + (p2 &&& (63 : Int32)))), .val (.long (own_nm (own_fl (p1 &&& (2 : Int32))) ((1 : Int32) + (p2 &&& (63 : Int32))) q3)), .second, .val (.ref b1), .val (.long (own_val (1 : Int32) (own_nm (own_fl (p1 &&& (2 : Int32))) ((1 : Int32) + (p2 &&& (63 : Int32))) q3) ((1 : Int32) + (p2 &&& (63 : Int32))))), .second, .unset, .unset, .unset, .unset]) rfl ?_
      refine XS.iload X142.here hx rfl (hb hby at_114) rfl ?_
      exact k
    have R146 : ∀ t, Steps p.tables e below (T142.setTop (mkF m 119 #[.val (.int p1), .val (.int p2), .val (.long q3), .second, .val (.int (1 : Int32)), .val (.int (own_fl (p1 &&& (2 : Int32)))), .val (.int ((1 : Int32) + (p2 &&& (63 : Int32)))), .val (.long (own_nm (own_fl (p1 &&& (2 : Int32))) ((1 : Int32) + (p2 &&& (63 : Int32))) q3)), .second, .val (.ref b1), .val (.long (own_val (1 : Int32) (own_nm (own_fl (p1 &&& (2 : Int32))) ((1 : Int32) + (p2 &&& (63 : Int32))) q3) ((1 : Int32) + (p2 &&& (63 : Int32))))), .second, .unset, .unset, .unset, .unset] [])) t → Steps p.tables e below (s₁.setTop (mkF m 0 #[.val (.int p1), .val (.int p2), .val (.long q3), .second, .unset, .unset, .unset, .unset, .unset, .unset, .unset, .unset, .unset, .unset, .unset, .unset] [])) t := by
      intro t k
      refine R145 t ?_
      refine XS.ifNo X142.here hx rfl (hb hby at_116) rfl ((if0 _ _).trans (feq (by decide)).1) ?_
      exact k
    have R147 : ∀ t, Steps p.tables e below (T142.setTop (mkF m 176 #[.val (.int p1), .val (.int p2), .val (.long q3), .second, .val (.int (1 : Int32)), .val (.int (own_fl (p1 &&& (2 : Int32)))), .val (.int ((1 : Int32) + (p2 &&& (63 : Int32)))), .val (.long (own_nm (own_fl (p1 &&& (2 : Int32))) ((1 : Int32) + (p2 &&& (63 : Int32))) q3)), .second, .val (.ref b1), .val (.long (own_val (1 : Int32) (own_nm (own_fl (p1 &&& (2 : Int32))) ((1 : Int32) + (p2 &&& (63 : Int32))) q3) ((1 : Int32) + (p2 &&& (63 : Int32))))), .second, .val (.long ((-(own_nm (own_fl (p1 &&& (2 : Int32))) ((1 : Int32) + (p2 &&& (63 : Int32))) q3)))), .second, .unset, .unset] [(.int (lcmpW (own_val (1 : Int32) (own_nm (own_fl (p1 &&& (2 : Int32))) ((1 : Int32) + (p2 &&& (63 : Int32))) q3) ((1 : Int32) + (p2 &&& (63 : Int32)))) ((-(own_nm (own_fl (p1 &&& (2 : Int32))) ((1 : Int32) + (p2 &&& (63 : Int32))) q3)))))])) t → Steps p.tables e below (s₁.setTop (mkF m 0 #[.val (.int p1), .val (.int p2), .val (.long q3), .second, .unset, .unset, .unset, .unset, .unset, .unset, .unset, .unset, .unset, .unset, .unset, .unset] [])) t := by
      intro t k
      refine R146 t ?_
      refine XS.lload X142.here hx rfl (hb hby at_119) rfl ?_
      refine XS.lneg X142.here hx rfl (hb hby at_121) rfl ?_
      refine XS.lstore X142.here hx rfl (hb hby at_122) rfl (l' := #[.val (.int p1), .val (.int p2), .val (.long q3), .second, .val (.int (1 : Int32)), .val (.int (own_fl (p1 &&& (2 : Int32)))), .val (.int ((1 : Int32) + (p2 &&& (63 : Int32)))), .val (.long (own_nm (own_fl (p1 &&& (2 : Int32))) ((1 : Int32) + (p2 &&& (63 : Int32))) q3)), .second, .val (.ref b1), .val (.long (own_val (1 : Int32) (own_nm (own_fl (p1 &&& (2 : Int32))) ((1 : Int32) + (p2 &&& (63 : Int32))) q3) ((1 : Int32) + (p2 &&& (63 : Int32))))), .second, .val (.long ((-(own_nm (own_fl (p1 &&& (2 : Int32))) ((1 : Int32) + (p2 &&& (63 : Int32))) q3)))), .second, .unset, .unset]) rfl ?_
      refine XS.goto X142.here hx rfl (pc0 := 124) (pc' := 171) rfl (hb hby at_124) (by decide) (by decide) ?_
      refine XS.lload X142.here hx rfl (hb hby at_171) rfl ?_
      refine XS.lload X142.here hx rfl (hb hby at_173) rfl ?_
      refine XS.lcmp X142.here hx rfl (hb hby at_175) rfl ?_
      exact k
    have R148 : ∀ t, Steps p.tables e below (T142.setTop (mkF m 179 #[.val (.int p1), .val (.int p2), .val (.long q3), .second, .val (.int (1 : Int32)), .val (.int (own_fl (p1 &&& (2 : Int32)))), .val (.int ((1 : Int32) + (p2 &&& (63 : Int32)))), .val (.long (own_nm (own_fl (p1 &&& (2 : Int32))) ((1 : Int32) + (p2 &&& (63 : Int32))) q3)), .second, .val (.ref b1), .val (.long (own_val (1 : Int32) (own_nm (own_fl (p1 &&& (2 : Int32))) ((1 : Int32) + (p2 &&& (63 : Int32))) q3) ((1 : Int32) + (p2 &&& (63 : Int32))))), .second, .val (.long ((-(own_nm (own_fl (p1 &&& (2 : Int32))) ((1 : Int32) + (p2 &&& (63 : Int32))) q3)))), .second, .unset, .unset] [])) t → Steps p.tables e below (s₁.setTop (mkF m 0 #[.val (.int p1), .val (.int p2), .val (.long q3), .second, .unset, .unset, .unset, .unset, .unset, .unset, .unset, .unset, .unset, .unset, .unset, .unset] [])) t := by
      intro t k
      refine R147 t ?_
      refine XS.ifNo X142.here hx rfl (hb hby at_176) rfl ((if0 _ _).trans (teq ((lw_eq _ _).mpr (own_lawA _ p2 q3))).2) ?_
      exact k
    have R149 : ∀ t, Steps p.tables e below (T142.setTop (mkF m 184 #[.val (.int p1), .val (.int p2), .val (.long q3), .second, .val (.int (1 : Int32)), .val (.int (own_fl (p1 &&& (2 : Int32)))), .val (.int ((1 : Int32) + (p2 &&& (63 : Int32)))), .val (.long (own_nm (own_fl (p1 &&& (2 : Int32))) ((1 : Int32) + (p2 &&& (63 : Int32))) q3)), .second, .val (.ref b1), .val (.long (own_val (1 : Int32) (own_nm (own_fl (p1 &&& (2 : Int32))) ((1 : Int32) + (p2 &&& (63 : Int32))) q3) ((1 : Int32) + (p2 &&& (63 : Int32))))), .second, .val (.long ((-(own_nm (own_fl (p1 &&& (2 : Int32))) ((1 : Int32) + (p2 &&& (63 : Int32))) q3)))), .second, .unset, .unset] [(.int (1 : Int32))])) t → Steps p.tables e below (s₁.setTop (mkF m 0 #[.val (.int p1), .val (.int p2), .val (.long q3), .second, .unset, .unset, .unset, .unset, .unset, .unset, .unset, .unset, .unset, .unset, .unset, .unset] [])) t := by
      intro t k
      refine R148 t ?_
      refine XS.iconst X142.here hx rfl (hb hby at_179) ?_
      refine XS.goto X142.here hx rfl (pc0 := 180) (pc' := 184) rfl (hb hby at_180) (by decide) (by decide) ?_
      exact k
    obtain ⟨fs, hr, hrun, hended, hv1, hv2, hv3, hv4⟩ := X142.leaveW hS131 (by rw [show T142.heap = T138.heap from e142]; exact Y138) (v := some (.int (1 : Int32))) (fun h => by rw [Bd.returns] at h; cases h)
    refine ⟨_, _, pre0 _ (R149 _ (retN X142 hx (t := .boolean) Bd.returns (by simp) (hb hby at_184) hr)), hrun, hended, _, _, rfl, ?_, hv1, hv2, hv3, hv4.mono (by decide) (by decide)⟩
    show Q_rm0 Z p1 p2 q3  h0 n0 _ T142.heap _
    rw [e142]
    exact ⟨rfl, N142⟩
set_option maxRecDepth 65536 in
set_option maxHeartbeats 40000000 in
theorem comes_1 {Post : Tables → Env → Array Value → State → Outcome → State → Prop} (hpost : ∀ tb e args s v u, (limb_1_1.after args s (.returned v) u = true ∧ limb_1_2.after args s (.returned v) u = true ∧ True) → ReturnedEndW s (.returned v) u (Jvm.fieldLocs frame_1_writes args s ++ Jvm.arrayLocs frame_1_arrays args s ++ Jvm.staticLocs frame_1_statics s) 16 1152 → Post tb e args s (.returned v) u) :
    ArmFor flags0 classFile x code maxLocals ret World_1 tables_1 room_1 Calls_1 rest_1 Pre_1 Post := by
  intro l hfl _ _ p e ha hc hk s m args below hf hA hF happ hP
  obtain ⟨hcalls, hrest, hpre⟩ := hP
  obtain ⟨-, -, -, hnamed, -, -, -, hat⟩ := (Spec.applies_iff hf).mp happ
  obtain ⟨hg, hn⟩ := and_e (Cond.before_iff.mp (show (Jvm.Cond.and given_1 narrow_1).before args s = true from hpre))
  obtain ⟨g0, r0⟩ := and_e hg
  obtain ⟨g1, r1⟩ := and_e r0
  obtain ⟨g2, r2⟩ := and_e r1
  obtain ⟨w0, w1, w2, rfl⟩ : ∃ w0 w1 w2 : Value, args = #[w0, w1, w2] := by
    have hs : args.size = 3 := by simpa [Cond.value, given_1] using g0
    obtain ⟨L⟩ := args
    match L, hs with
    | [w0, w1, w2], _ => exact ⟨w0, w1, w2, rfl⟩
  have hw := fun d (hd : d ∈ tables_1) => atoms_spec (ws := Jvm.Cond.code x code maxLocals ret :: tables_1) hat d (List.mem_cons_of_mem _ hd)
  have hfit : Fit s := fun {y c} hc i hi => by
    obtain ⟨ha, rfl⟩ := Array.getElem?_eq_some_iff.mp hc
    have q := List.all_eq_true.mp ((Array.all_eq_true_iff_forall_mem.mp hF) _ (Array.getElem_mem ha)) i (List.mem_range.mpr hi)
    simpa [Array.getElem?_eq_getElem hi] using q
  obtain ⟨i0, ei0⟩ := is_v g1
  obtain rfl : w0 = (.int i0) := Option.some.inj ei0
  obtain ⟨i1, ei1⟩ := is_v g2
  obtain rfl : w1 = (.int i1) := Option.some.inj ei1
  obtain ⟨i2, ei2⟩ := isL_v r2
  obtain rfl : w2 = (.long i2) := Option.some.inj ei2
  obtain ⟨n, o, h1, h2, h3, _, L, rfl, ⟨rfl, N⟩, hq⟩ := rm0 l s _ hw tables_1 i0 i1 i2  s.heap s.heap.size (Nat.le_refl _)  p e ha hc hk s m _ below hf ((Spec.applies_iff_loose hf).mp happ).1 ⟨rfl, State.Warmed39.refl s, rfl⟩ trivial
  refine ⟨n, _, h1, h2, h3, hpost _ _ _ _ _ _ ⟨Cond.after_iff.mpr rfl, Cond.after_iff.mpr (eq_i res_at (Term.int_eval (1)) rfl), trivial⟩ ⟨hq.1, hq.2.1, hq.2.2.1, (hq.2.2.2.sift fun y hy => Or.inr (N y hy)).mono (by decide) (by decide)⟩⟩
theorem main_1_1 : Claimed_1_1 := comes_1 fun _ _ _ _ _ _ h hF => ⟨h.1, hF⟩
theorem main_1_2 : Claimed_1_2 := comes_1 fun _ _ _ _ _ _ h hF => ⟨h.2.1, hF⟩
end Jvm.Pilot.@@N@@
namespace Jvm.Pilot.@@N@@
open Jvm Jvm.ClassFile Sem Op Lib Jvm.Free Jvm.Stand Jvm.Pilot.@@N@@.Jvm.D
/-! MADE BY PROGRAM (witnessworld.py) out of the Statement's table words and the real class files: 15 classes; the members and pool entries that the words name. The judged class is class 1, her method 1. -/
namespace start1
open Jvm.ClassFile
def u (s : String) : CpInfo := .utf8 (stringToUtf16 s)
/-- a pool by its gaps: so many unusable entries, then the entry; so many at the end -/
def gap : Nat → List CpInfo → List CpInfo
  | 0, r => r
  | n + 1, r => .unusable :: gap n r
def poolList (es : List (Nat × CpInfo)) (last : Nat) : List CpInfo := es.foldr (fun e r => gap e.1 (e.2 :: r)) (gap last [])
def pool (es : List (Nat × CpInfo)) (last : Nat) : Array CpInfo := ⟨poolList es last⟩
def fileOf (pool : Array CpInfo) (this : Nat) (attrs : Array Attribute := #[]) (ms : Array MethodInfo := #[]) (fl : Nat := 33) (sup : Nat := 0) (ifs : Array Nat := #[]) (fds : Array FieldInfo := #[]) : ClassFile where
  minorVersion := 0
  majorVersion := 65
  constantPool := pool
  accessFlags := fl
  thisClass := this
  superClass := sup
  interfaces := ifs
  fields := fds
  methods := ms
  attributes := attrs
def plain (name : String) (sup : Option ClassId) : Class where
  name := name
  kind := .ordinary
  loader := none
  accessFlags := 33
  super := sup
  interfaces := #[]
  cf := none
  fields := #[]
  methods := #[]
  instanceTypes := #[]
  staticTypes := #[]
  resolved := #[]
  callSites := []
  init := .initialized
  statics := none
  mirror := none

def pool0 : Array CpInfo := pool [(5, u "<init>"), (0, u "()V"), (1, .class_ 10), (1, u "java/lang/Object")] 113

def k0c0 : Code := { maxStack := 0, maxLocals := 1, code := object_method_1_code, exceptionTable := #[], attributes := #[] }
def k0m0 : Method := { name := "<init>", desc := "()V", sig := { parameters := [], returnType := none }, accessFlags := 1, code := some k0c0 }
/-- java/lang/Object -/
def k0 : Class := { plain "java/lang/Object" none with
  accessFlags := 33
  interfaces := #[]
  cf := some (fileOf pool0 8 #[] #[{ accessFlags := 1, nameIndex := 5, descriptorIndex := 6, attributes := #[] }] 33 0 #[] #[])
  fields := #[]
  methods := #[k0m0]
  instanceTypes := #[]
  staticTypes := #[]
  resolved := Array.replicate 124 none
  statics := none }

def pool1 : Array CpInfo := pool [(2, .class_ 4), (1, u "java/lang/Object"), (0, u "<init>"), (0, u "()V"), (0, .class_ 8), (0, u "com/example/rigorous_bytecode/rigorousbytecode/text/TextScanner$IntegerLiteral"), (0, .string 10), (0, u "0"), (0, .methodref 7 12), (0, .nameAndType 5 13), (0, u "(ZJILjava/lang/String;)V"), (0, .methodref 7 15), (0, .nameAndType 16 17), (0, u "value"), (0, u "(I)J"), (0, .class_ 19), (0, u "com/example/rigorous_bytecode/rigorousbytecode/text/IntegerLiteralValuePinLaw"), (2, u "law"), (0, u "(IIJ)Z")] 7

def k1m0 : Method := { name := "<init>", desc := "()V", sig := { parameters := [], returnType := none }, accessFlags := 1, code := none }
def k1c1 : Code := { maxStack := 7, maxLocals := 16, code := code, exceptionTable := #[], attributes := #[] }
def k1m1 : Method := { name := "law", desc := "(IIJ)Z", sig := { parameters := [.int, .int, .long], returnType := some .boolean }, accessFlags := 9, code := some k1c1 }
/-- com/example/rigorous_bytecode/rigorousbytecode/text/IntegerLiteralValuePinLaw -/
def k1 : Class := { plain "com/example/rigorous_bytecode/rigorousbytecode/text/IntegerLiteralValuePinLaw" (some 0) with
  accessFlags := 49
  interfaces := #[]
  cf := some (fileOf pool1 18 #[] #[{ accessFlags := 1, nameIndex := 5, descriptorIndex := 6, attributes := #[] }, { accessFlags := 9, nameIndex := 22, descriptorIndex := 23, attributes := #[] }] 49 2 #[] #[])
  fields := #[]
  methods := #[k1m0, k1m1]
  instanceTypes := #[]
  staticTypes := #[]
  resolved := Array.replicate 31 none
  statics := none }

def pool2 : Array CpInfo := pool [(1, .methodref 2 3), (0, .class_ 4), (0, .nameAndType 5 6), (0, u "java/lang/Object"), (0, u "<init>"), (0, u "()V"), (0, .class_ 8), (0, u "java/lang/Record")] 13

def k2c0 : Code := { maxStack := 1, maxLocals := 1, code := jdk_30_method_1_code, exceptionTable := #[], attributes := #[] }
def k2m0 : Method := { name := "<init>", desc := "()V", sig := { parameters := [], returnType := none }, accessFlags := 4, code := some k2c0 }
/-- java/lang/Record -/
def k2 : Class := { plain "java/lang/Record" (some 0) with
  accessFlags := 1057
  interfaces := #[]
  cf := some (fileOf pool2 7 #[] #[{ accessFlags := 4, nameIndex := 5, descriptorIndex := 6, attributes := #[] }] 1057 2 #[] #[])
  fields := #[]
  methods := #[k2m0]
  instanceTypes := #[]
  staticTypes := #[]
  resolved := Array.replicate 22 none
  statics := none }

def pool3 : Array CpInfo := pool [(1, .methodref 2 3), (0, .class_ 4), (0, .nameAndType 5 6), (0, u "java/lang/Record"), (0, u "<init>"), (0, u "()V"), (0, .fieldref 8 9), (0, .class_ 10), (0, .nameAndType 11 12), (0, u "com/example/rigorous_bytecode/rigorousbytecode/text/TextScanner$IntegerLiteral"), (0, u "negative"), (0, u "Z"), (0, .fieldref 8 14), (0, .nameAndType 15 16), (0, u "magnitude"), (0, u "J"), (0, .fieldref 8 18), (0, .nameAndType 19 20), (0, u "suffixWidth"), (0, u "I"), (0, .fieldref 8 22), (0, .nameAndType 23 24), (0, u "spelling"), (0, u "Ljava/lang/String;"), (18, u "(ZJILjava/lang/String;)V"), (6, u "value"), (0, u "(I)J"), (8, .class_ 61), (0, u "com/example/rigorous_bytecode/rigorousbytecode/text/TextScanner")] 22

def k3c0 : Code := { maxStack := 3, maxLocals := 6, code := prog_142_method_1_code, exceptionTable := #[], attributes := #[] }
def k3m0 : Method := { name := "<init>", desc := "(ZJILjava/lang/String;)V", sig := { parameters := [.boolean, .long, .int, (.object "java/lang/String")], returnType := none }, accessFlags := 0, code := some k3c0 }
def k3c1 : Code := { maxStack := 4, maxLocals := 4, code := prog_142_method_3_code, exceptionTable := #[], attributes := #[] }
def k3m1 : Method := { name := "value", desc := "(I)J", sig := { parameters := [.int], returnType := some .long }, accessFlags := 0, code := some k3c1 }
/-- com/example/rigorous_bytecode/rigorousbytecode/text/TextScanner$IntegerLiteral -/
def k3 : Class := { plain "com/example/rigorous_bytecode/rigorousbytecode/text/TextScanner$IntegerLiteral" (some 2) with
  accessFlags := 48
  interfaces := #[]
  cf := some (fileOf pool3 8 #[.nestHost 60] #[{ accessFlags := 0, nameIndex := 5, descriptorIndex := 43, attributes := #[] }, { accessFlags := 0, nameIndex := 50, descriptorIndex := 51, attributes := #[] }] 48 2 #[] #[{ accessFlags := 18, nameIndex := 11, descriptorIndex := 12, attributes := #[] }, { accessFlags := 18, nameIndex := 15, descriptorIndex := 16, attributes := #[] }, { accessFlags := 18, nameIndex := 19, descriptorIndex := 20, attributes := #[] }, { accessFlags := 18, nameIndex := 23, descriptorIndex := 24, attributes := #[] }])
  fields := #[{ name := "negative", type := .boolean, accessFlags := 18, slot := 0, constantValue := 0 }, { name := "magnitude", type := .long, accessFlags := 18, slot := 1, constantValue := 0 }, { name := "suffixWidth", type := .int, accessFlags := 18, slot := 2, constantValue := 0 }, { name := "spelling", type := (.object "java/lang/String"), accessFlags := 18, slot := 3, constantValue := 0 }]
  methods := #[k3m0, k3m1]
  instanceTypes := #[.boolean, .long, .int, (.object "java/lang/String")]
  staticTypes := #[]
  resolved := Array.replicate 84 none
  statics := none }

def pool4 : Array CpInfo := pool [(1, .class_ 2), (0, u "java/io/Serializable"), (0, .class_ 4), (0, u "java/lang/Object")] 2

/-- java/io/Serializable -/
def k4 : Class := { plain "java/io/Serializable" (some 0) with
  accessFlags := 1537
  interfaces := #[]
  cf := some (fileOf pool4 1 #[] #[] 1537 3 #[] #[])
  fields := #[]
  methods := #[]
  instanceTypes := #[]
  staticTypes := #[]
  resolved := Array.replicate 7 none
  statics := none }

def pool5 : Array CpInfo := pool [(1, .class_ 2), (0, u "java/lang/Comparable"), (0, .class_ 4), (0, u "java/lang/Object")] 7

/-- java/lang/Comparable -/
def k5 : Class := { plain "java/lang/Comparable" (some 0) with
  accessFlags := 1537
  interfaces := #[]
  cf := some (fileOf pool5 1 #[] #[] 1537 3 #[] #[])
  fields := #[]
  methods := #[]
  instanceTypes := #[]
  staticTypes := #[]
  resolved := Array.replicate 12 none
  statics := none }

def pool6 : Array CpInfo := pool [(2, .class_ 4), (1, u "java/lang/CharSequence"), (42, .class_ 48), (0, u "java/lang/CharSequence$1CodePointIterator"), (10, .class_ 60), (0, u "java/lang/CharSequence$1CharIterator"), (5, .class_ 67), (0, u "java/lang/Object")] 63

/-- java/lang/CharSequence -/
def k6 : Class := { plain "java/lang/CharSequence" (some 0) with
  accessFlags := 1537
  interfaces := #[]
  cf := some (fileOf pool6 2 #[.nestMembers #[47, 59]] #[] 1537 66 #[] #[])
  fields := #[]
  methods := #[]
  instanceTypes := #[]
  staticTypes := #[]
  resolved := Array.replicate 131 none
  statics := none }

def pool7 : Array CpInfo := pool [(1, .class_ 2), (0, u "java/lang/constant/Constable"), (0, .class_ 4), (0, u "java/lang/Object")] 6

/-- java/lang/constant/Constable -/
def k7 : Class := { plain "java/lang/constant/Constable" (some 0) with
  accessFlags := 1537
  interfaces := #[]
  cf := some (fileOf pool7 1 #[] #[] 1537 3 #[] #[])
  fields := #[]
  methods := #[]
  instanceTypes := #[]
  staticTypes := #[]
  resolved := Array.replicate 11 none
  statics := none }

def pool8 : Array CpInfo := pool [(1, .class_ 2), (0, u "java/lang/constant/ConstantDesc"), (0, .class_ 4), (0, u "java/lang/Object")] 32

/-- java/lang/constant/ConstantDesc -/
def k8 : Class := { plain "java/lang/constant/ConstantDesc" (some 0) with
  accessFlags := 1537
  interfaces := #[]
  cf := some (fileOf pool8 1 #[] #[] 1537 3 #[] #[])
  fields := #[]
  methods := #[]
  instanceTypes := #[]
  staticTypes := #[]
  resolved := Array.replicate 37 none
  statics := none }

def pool9 : Array CpInfo := pool [(2, .class_ 4), (1, u "java/lang/Object"), (0, u "<init>"), (0, u "()V"), (3, .class_ 12), (1, u "java/lang/String"), (0, u "value"), (0, u "[B"), (2, u "coder"), (0, u "B"), (2, u "hash"), (0, u "I"), (2, u "hashIsZero"), (0, u "Z"), (13, u "COMPACT_STRINGS"), (534, .class_ 576), (0, u "java/lang/CharSequence"), (22, u "CASE_INSENSITIVE_ORDER"), (0, u "Ljava/util/Comparator;"), (500, u "serialPersistentFields"), (0, u "[Ljava/io/ObjectStreamField;"), (0, .class_ 1104), (0, u "java/lang/String$CaseInsensitiveComparator"), (1, .class_ 1107), (0, u "java/io/Serializable"), (0, .class_ 1109), (0, u "java/lang/Comparable"), (0, .class_ 1111), (0, u "java/lang/constant/Constable"), (0, .class_ 1113), (0, u "java/lang/constant/ConstantDesc"), (2, u "serialVersionUID"), (0, u "J"), (3, u "REPL"), (0, u "C"), (2, u "LATIN1"), (1, u "UTF16")] 323

def k9m0 : Method := { name := "<init>", desc := "()V", sig := { parameters := [], returnType := none }, accessFlags := 1, code := none }
/-- java/lang/String -/
def k9 : Class := { plain "java/lang/String" (some 0) with
  accessFlags := 49
  interfaces := #[4, 5, 6, 7, 8]
  cf := some (fileOf pool9 10 #[.nestMembers #[1103]] #[{ accessFlags := 1, nameIndex := 5, descriptorIndex := 6, attributes := #[] }] 49 2 #[1106, 1108, 575, 1110, 1112] #[{ accessFlags := 18, nameIndex := 13, descriptorIndex := 14, attributes := #[] }, { accessFlags := 18, nameIndex := 17, descriptorIndex := 18, attributes := #[] }, { accessFlags := 2, nameIndex := 21, descriptorIndex := 22, attributes := #[] }, { accessFlags := 2, nameIndex := 25, descriptorIndex := 26, attributes := #[] }, { accessFlags := 26, nameIndex := 1116, descriptorIndex := 1117, attributes := #[] }, { accessFlags := 24, nameIndex := 40, descriptorIndex := 26, attributes := #[] }, { accessFlags := 26, nameIndex := 1101, descriptorIndex := 1102, attributes := #[] }, { accessFlags := 26, nameIndex := 1121, descriptorIndex := 1122, attributes := #[] }, { accessFlags := 25, nameIndex := 599, descriptorIndex := 600, attributes := #[] }, { accessFlags := 24, nameIndex := 1125, descriptorIndex := 18, attributes := #[] }, { accessFlags := 24, nameIndex := 1127, descriptorIndex := 18, attributes := #[] }])
  fields := #[{ name := "value", type := (.array .byte), accessFlags := 18, slot := 0, constantValue := 0 }, { name := "coder", type := .byte, accessFlags := 18, slot := 1, constantValue := 0 }, { name := "hash", type := .int, accessFlags := 2, slot := 2, constantValue := 0 }, { name := "hashIsZero", type := .boolean, accessFlags := 2, slot := 3, constantValue := 0 }, { name := "serialVersionUID", type := .long, accessFlags := 26, slot := 0, constantValue := 0 }, { name := "COMPACT_STRINGS", type := .boolean, accessFlags := 24, slot := 1, constantValue := 0 }, { name := "serialPersistentFields", type := (.array (.object "java/io/ObjectStreamField")), accessFlags := 26, slot := 2, constantValue := 0 }, { name := "REPL", type := .char, accessFlags := 26, slot := 3, constantValue := 0 }, { name := "CASE_INSENSITIVE_ORDER", type := (.object "java/util/Comparator"), accessFlags := 25, slot := 4, constantValue := 0 }, { name := "LATIN1", type := .byte, accessFlags := 24, slot := 5, constantValue := 0 }, { name := "UTF16", type := .byte, accessFlags := 24, slot := 6, constantValue := 0 }]
  methods := #[k9m0]
  instanceTypes := #[(.array .byte), .byte, .int, .boolean]
  staticTypes := #[.long, .boolean, (.array (.object "java/io/ObjectStreamField")), .char, (.object "java/util/Comparator"), .byte, .byte]
  resolved := Array.replicate 1451 none
  statics := none }

def pool10 : Array CpInfo := pool [(1, u "java/lang/Cloneable"), (0, .class_ 1), (0, u "java/lang/Object"), (0, .class_ 3)] 3

/-- java/lang/Cloneable -/
def k10 : Class := { plain "java/lang/Cloneable" (some 0) with
  accessFlags := 1537
  interfaces := #[]
  cf := some (fileOf pool10 2 #[] #[] 1537 4 #[] #[])
  fields := #[]
  methods := #[]
  instanceTypes := #[]
  staticTypes := #[]
  resolved := Array.replicate 8 none
  statics := none }

/-- the primitive byte -/
def k11 : Class := { plain "byte" none with kind := .primitive 'B', accessFlags := 0x411 }
/-- [B -/
def k12 : Class := { plain "[B" (some 0) with kind := .array 11 .byte, interfaces := #[10, 4], accessFlags := 1041 }

/-- the primitive int -/
def k13 : Class := { plain "int" none with kind := .primitive 'I', accessFlags := 0x411 }
/-- [I -/
def k14 : Class := { plain "[I" (some 0) with kind := .array 13 .int, interfaces := #[10, 4], accessFlags := 1041 }

def heap : Heap := #[]
def classes : Array Class := #[k0, k1, k2, k3, k4, k5, k6, k7, k8, k9, k10, k11, k12, k13, k14]
def interned : List (Array UInt16 × Addr) := []
def slotsUsed : Nat := 0
def theMethod : MethodId := ⟨1, 1⟩
def args0 : Array Value := #[.int 3, .int 5, .long 9]
def aboutOver (below : List Frame) : State where
  vm := { classes := classes, interned := interned.toArray }
  heap := heap
  slotsUsed := slotsUsed
  threads := #[{ frames := .invoking theMethod args0 :: below }]
def below0 : List Frame := [.native { method := ⟨0, 0⟩, args := #[] }]
def about1 : State := aboutOver below0
def p0 : Program := .bare "" "" ""
def e0 : Env := launch0.env 0 0 0
theorem w_frames : about1.frames = Frame.invoking theMethod args0 :: below0 := rfl
set_option maxRecDepth 65536 in
theorem w_args : argsFit about1.vm theMethod args0 = true := by decide +kernel
set_option maxRecDepth 65536 in
theorem w_heap : heapFits about1 = true := by decide +kernel
set_option maxRecDepth 65536 in
theorem w_runnable : about1.curStatus? = some .runnable := by decide +kernel
set_option maxRecDepth 65536 in
theorem w_alone : about1.alone = true := by decide +kernel
set_option maxRecDepth 65536 in
theorem w_named : about1.methodNamed? x = some theMethod := by decide +kernel
set_option maxRecDepth 65536 in
theorem w_hears : about1.hears theMethod below0 = true := by decide +kernel
set_option maxRecDepth 65536 in
theorem w_ripe : about1.ripe theMethod args0 below0 = true := by decide +kernel
theorem w_running : about1.status = .running := rfl
set_option maxRecDepth 65536 in
theorem w_room : about1.hasRoom e0.platform room_1 = true :=
  launch0.hasRoom_least _ room_1 (by decide +kernel) (by decide +kernel) (by decide +kernel) (by decide +kernel) (by decide +kernel) (by decide +kernel)
theorem allAtoms_all (ts : List Jvm.Cond) (a : Array Jvm.Value) (st : Jvm.State) : (allAtoms ts).before a st = ts.all (fun c => c.before a st) := by
  induction ts with
  | nil => rfl
  | cons c t ih =>
    show (Jvm.Cond.and c (allAtoms t)).before a st = _
    rw [Jvm.Cond.before_and, ih, List.all_cons]
def words1 : List Jvm.Cond := Jvm.Cond.code x code maxLocals ret :: tables_1
/-- a 'code' word, met by the world's own term for the bytes: nothing is compared byte by byte -/
theorem code_word {y : MethodName} {bytes : ByteArray} {mx : Nat} {rt : Option FieldType} {a : Array Value} {s : State} {m : MethodId} {meth : Method} {c : Code} (h1 : s.methodNamed? y = some m) (h2 : s.vm.method? m = some meth) (h3 : meth.code = some c) (h4 : c.code = bytes)
    (h5 : (c.maxLocals == mx && c.exceptionTable.isEmpty && decide (c.maxStack ≤ mostOperands) && decide (meth.sig.returnType = rt) && !meth.locks && decide (parseMethodDescriptor y.desc = some meth.sig)) = true) : (Jvm.Cond.code y bytes mx rt).before a s = true := by
  simp only [Bool.and_eq_true, beq_iff_eq, Bool.not_eq_true', decide_eq_true_eq] at h5
  obtain ⟨⟨⟨⟨⟨g1, g2⟩, g3⟩, g4⟩, g5⟩, g6⟩ := h5
  simp [Cond.before, Cond.holds, Cond.value, h1, h2, h3, h4, g1, g2, g3, g4, g5, g6]
def isCode : Jvm.Cond → Bool
  | .code _ _ _ _ => true
  | _ => false
theorem all_split {L : List Jvm.Cond} {P : Jvm.Cond → Bool} (h1 : L.all (fun c => isCode c || P c) = true) (h2 : ∀ c ∈ L.filter isCode, P c = true) : L.all P = true := by
  refine List.all_eq_true.mpr fun c hc => ?_
  have h := List.all_eq_true.mp h1 c hc
  rcases Bool.eq_false_or_eq_true (isCode c) with hi | hi
  · exact h2 c (List.mem_filter.mpr ⟨hc, hi⟩)
  · simpa [hi] using h
set_option maxRecDepth 65536 in
theorem w_c0 : (Jvm.Cond.code x code maxLocals ret).before args0 about1 = true := code_word (m := ⟨1, 1⟩) (meth := k1m1) (c := k1c1) (by decide +kernel) rfl rfl rfl (by decide +kernel)
set_option maxRecDepth 65536 in
theorem w_c1 : (Jvm.Cond.code ({ cls := "com/example/rigorous_bytecode/rigorousbytecode/text/TextScanner$IntegerLiteral", name := "<init>", desc := "(ZJILjava/lang/String;)V" } : Jvm.MethodName) prog_142_method_1_code (6 : Nat) (Option.none : Option Jvm.ClassFile.FieldType)).before args0 about1 = true := code_word (m := ⟨3, 0⟩) (meth := k3m0) (c := k3c0) (by decide +kernel) rfl rfl rfl (by decide +kernel)
set_option maxRecDepth 65536 in
theorem w_c2 : (Jvm.Cond.code ({ cls := "java/lang/Record", name := "<init>", desc := "()V" } : Jvm.MethodName) jdk_30_method_1_code (1 : Nat) (Option.none : Option Jvm.ClassFile.FieldType)).before args0 about1 = true := code_word (m := ⟨2, 0⟩) (meth := k2m0) (c := k2c0) (by decide +kernel) rfl rfl rfl (by decide +kernel)
set_option maxRecDepth 65536 in
theorem w_c3 : (Jvm.Cond.code ({ cls := "java/lang/Object", name := "<init>", desc := "()V" } : Jvm.MethodName) object_method_1_code (1 : Nat) (Option.none : Option Jvm.ClassFile.FieldType)).before args0 about1 = true := code_word (m := ⟨0, 0⟩) (meth := k0m0) (c := k0c0) (by decide +kernel) rfl rfl rfl (by decide +kernel)
set_option maxRecDepth 65536 in
theorem w_c4 : (Jvm.Cond.code ({ cls := "com/example/rigorous_bytecode/rigorousbytecode/text/TextScanner$IntegerLiteral", name := "value", desc := "(I)J" } : Jvm.MethodName) prog_142_method_3_code (4 : Nat) (Option.some Jvm.ClassFile.FieldType.long)).before args0 about1 = true := code_word (m := ⟨3, 1⟩) (meth := k3m1) (c := k3c1) (by decide +kernel) rfl rfl rfl (by decide +kernel)
def codes1 : List Jvm.Cond := [Jvm.Cond.code x code maxLocals ret, Jvm.Cond.code ({ cls := "com/example/rigorous_bytecode/rigorousbytecode/text/TextScanner$IntegerLiteral", name := "<init>", desc := "(ZJILjava/lang/String;)V" } : Jvm.MethodName) prog_142_method_1_code (6 : Nat) (Option.none : Option Jvm.ClassFile.FieldType), Jvm.Cond.code ({ cls := "java/lang/Record", name := "<init>", desc := "()V" } : Jvm.MethodName) jdk_30_method_1_code (1 : Nat) (Option.none : Option Jvm.ClassFile.FieldType), Jvm.Cond.code ({ cls := "java/lang/Object", name := "<init>", desc := "()V" } : Jvm.MethodName) object_method_1_code (1 : Nat) (Option.none : Option Jvm.ClassFile.FieldType), Jvm.Cond.code ({ cls := "com/example/rigorous_bytecode/rigorousbytecode/text/TextScanner$IntegerLiteral", name := "value", desc := "(I)J" } : Jvm.MethodName) prog_142_method_3_code (4 : Nat) (Option.some Jvm.ClassFile.FieldType.long)]
set_option maxRecDepth 65536 in
theorem codes_eq : words1.filter isCode = codes1 := rfl
theorem w_codes : ∀ c ∈ words1.filter isCode, c.before args0 about1 = true := by
  rw [codes_eq]
  intro c hc
  simp only [codes1, List.mem_cons, List.not_mem_nil, or_false] at hc
  rcases hc with rfl | rfl | rfl | rfl | rfl
  · exact w_c0
  · exact w_c1
  · exact w_c2
  · exact w_c3
  · exact w_c4
set_option maxRecDepth 65536 in
theorem w_t1 : (words1.take 24).all (fun c => isCode c || c.before args0 about1) = true := by decide +kernel
set_option maxRecDepth 65536 in
theorem w_t2 : (words1.drop 24).all (fun c => isCode c || c.before args0 about1) = true := by decide +kernel
theorem w_tables : (allAtoms (Jvm.Cond.code x code maxLocals ret :: tables_1)).before args0 about1 = true := by
  rw [allAtoms_all]
  show words1.all (fun c => c.before args0 about1) = true
  refine all_split ?_ w_codes
  rw [← List.take_append_drop 24 words1, List.all_append, w_t1, w_t2]
  rfl
set_option maxRecDepth 65536 in
theorem w_case : (Jvm.Cond.and given_1 narrow_1).before args0 about1 = true := by decide +kernel
theorem w_applies : (headSpec (Jvm.Cond.code x code maxLocals ret :: tables_1) room_1).applies x e0.platform about1 = true :=
  (Spec.applies_iff w_frames).mpr ⟨w_running, w_runnable, w_alone, w_named, w_hears, w_ripe, w_room, w_tables⟩
theorem atStart : AtStart classFile x code maxLocals ret World_1 tables_1 room_1 Calls_1 rest_1 Pre_1 launch0 p0 e0 about1 theMethod args0 below0 :=
  ⟨lists_1, trivial, launch0.admits_env _ _ _, launch0.least_env, fairChoices_fair.cas, fairChoices_fair.clock, w_frames, w_args, w_heap, w_applies, trivial, trivial, w_case⟩
end start1
theorem witness_1 : WitnessClaimed_1 := ⟨start1.p0, start1.e0, start1.about1, start1.theMethod, start1.args0, start1.below0, start1.atStart⟩
end Jvm.Pilot.@@N@@
