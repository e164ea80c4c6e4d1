import JvmDerived
import JvmDerived.Pilot.@@N@@Statement
import JvmDerived.Pilot.@@N@@Code
set_option linter.unusedVariables false
set_option linter.unusedSimpArgs false
namespace Jvm.RoadKit
open Sem ClassFile Op Lib Jvm.Stand Jvm.Free Jvm.LawKit
section New
variable {p : Program} {l : Launch} {e : Env} {R : Room} {s : State} {m : MethodId} {args : Array Value} {below : List Frame} {meth : Method} {c : Code} {T : State} {locs : List Loc} {cells slots : Nat}
theorem retI (X : Stand p l e R s m args below meth c T locs cells slots) (hx : p.tables.exec = Jvm.exec) {pc : Nat} {Ls : Array Slot} {z : Int32} {rest : List Value} (hret : meth.sig.returnType = some .int) (hd : decode c.code pc = .ok (.ireturn, 1)) {fs : List Frame}
    (hl : ∀ (f : JFrame) (acts : List Action), f.method = m → f.locked = none → f.entered = [] → (doReturn e (T.setTop f) acts (some (.int z))).1 = T.setFrames fs) : Steps p.tables e below (T.setTop (mkF m pc Ls (.int z :: rest))) (T.setFrames fs) := by
  have hm' : T.vm.method? m = some meth := X.method'
  have hn : narrow .int (.int z) = .int z := rfl
  show Steps p.tables e below (T.setTop { method := m, pc := pc, locals := Ls, stack := _ :: rest, locked := none }) _
  jvm_step X.here [X.here.top, hx, hd, hm', hret, hn]
  first | (intro acts; rw [hl _ acts rfl rfl rfl]) | rw [hl _ _ rfl rfl rfl]
  exact Steps.refl _
end New
end Jvm.RoadKit
namespace Jvm.Pilot.@@N@@
open Jvm Jvm.ClassFile Sem Op Lib Jvm.Free Jvm.Stand Jvm.LawKit Jvm.RoadKit Bundle Jvm.Pilot.@@N@@.Jvm.D
theorem own_n0 {Z : State} {n0 : Nat} {h : Heap} (O : Old Z n0 h) : n0 ≤ h.size := O.1 ▸ O.2.1
theorem own_born {Z : State} {n0 : Nat} {h : Heap} {b : Addr} (O : Old Z n0 h) (q : h.size ≤ b) : n0 ≤ b := Nat.le_trans (own_n0 O) q
theorem own_eqle {b : Addr} {n : Nat} (q : b = n) : n ≤ b := Nat.le_of_eq q.symm
theorem own_ltn {a b : Addr} {n : Nat} (h : a < n) (q : n ≤ b) : a ≠ b := Nat.ne_of_lt (Nat.lt_of_lt_of_le h q)
theorem own_oldlt {Z : State} {n0 : Nat} {h : Heap} {a : Addr} (O : Old Z n0 h) (q : a < Z.heap.size) : a < h.size := Nat.lt_of_lt_of_le q O.2.1
def own_minI (x y : Int32) : Int32 := if y < x then y else x
def own_maxI (x y : Int32) : Int32 := if x < y then y else x
def own_minJ (x y : Int64) : Int64 := if y < x then y else x
def own_P (b : Int64) (a : Int32) : Int64 := own_minJ (b <<< ((own_minI (a - (1 : Int32)) (30 : Int32)) &&& 0x3f).toInt64) (300000 : Int64)
theorem own_minJ_toInt (x y : Int64) : (own_minJ x y).toInt = if y.toInt < x.toInt then y.toInt else x.toInt := by
  unfold own_minJ
  simp only [Int64.lt_iff_toInt_lt]
  split <;> rfl
theorem own_minI_toInt (x y : Int32) : (own_minI x y).toInt = if y.toInt < x.toInt then y.toInt else x.toInt := by
  unfold own_minI
  simp only [Int32.lt_iff_toInt_lt]
  split <;> rfl
theorem own_k (q : Int32) (k : Nat) (hk : k < 64) (h : q.toInt = (k : Int)) : q.toBitVec.toNat % 64 = k := by
  have h1 : q.toInt = q.toBitVec.toInt := rfl
  have h2 := BitVec.toInt_eq_toNat_cond q.toBitVec
  have h3 := q.toBitVec.isLt
  rw [h1, h2] at h
  split at h <;> omega
theorem own_shl (b : Int64) (q : Int32) (k : Nat) (hb : 0 ≤ b.toInt ∧ b.toInt ≤ 300000) (hk : k ≤ 30) (hq : q.toInt = (k : Int)) : (b <<< (q &&& 0x3f).toInt64).toInt = b.toInt * (2 ^ k : Nat) ∧ 0 ≤ b.toInt * (2 ^ k : Nat) ∧ b.toInt * (2 ^ k : Nat) ≤ 300000 * 1073741824 := by
  have h := c_lshl b q k (own_k q k (by omega) hq)
  have hp : (2 ^ k : Nat) ≤ 2 ^ 30 := Nat.pow_le_pow_right (by decide) hk
  have hp' : ((2 ^ k : Nat) : Int) ≤ 1073741824 := by
    have : (2 ^ 30 : Nat) = 1073741824 := by decide
    omega
  have h0 : (0 : Int) ≤ ((2 ^ k : Nat) : Int) := Int.natCast_nonneg _
  have hM0 : 0 ≤ b.toInt * (2 ^ k : Nat) := Int.mul_nonneg hb.1 h0
  have hM1 : b.toInt * (2 ^ k : Nat) ≤ 300000 * 1073741824 := Int.mul_le_mul hb.2 hp' h0 (by decide)
  have hr := rng64 (b <<< (q &&& 0x3f).toInt64)
  generalize b.toInt * (2 ^ k : Nat) = M at *
  generalize (b <<< (q &&& 0x3f).toInt64).toInt = S at *
  refine ⟨?_, hM0, hM1⟩
  omega
theorem own_P_toInt (b : Int64) (a : Int32) (k : Nat) (hb : 0 ≤ b.toInt ∧ b.toInt ≤ 300000) (hk : k ≤ 30) (hq : (own_minI (a - (1 : Int32)) (30 : Int32)).toInt = (k : Int)) : (own_P b a).toInt = (if 300000 < b.toInt * (2 ^ k : Nat) then 300000 else b.toInt * (2 ^ k : Nat)) ∧ 0 ≤ b.toInt * (2 ^ k : Nat) := by
  obtain ⟨h1, h2, -⟩ := own_shl b _ k hb hk hq
  refine ⟨?_, h2⟩
  unfold own_P
  rw [own_minJ_toInt, h1]
  rfl
theorem own_sub1 (a : Int32) (ha : 1 ≤ a.toInt ∧ a.toInt ≤ 2147483647) : (a - (1 : Int32)).toInt = a.toInt - 1 := by
  have h := c_isub a 1
  have h1 : (1 : Int32).toInt = 1 := by decide
  have h2 := rng32 (a - 1)
  rw [h1] at h
  omega
theorem own_add1 (a : Int32) (ha : 1 ≤ a.toInt ∧ a.toInt ≤ 2147483646) : (a + (1 : Int32)).toInt = a.toInt + 1 := by
  have h := c_iadd a 1
  have h1 : (1 : Int32).toInt = 1 := by decide
  have h2 := rng32 (a + 1)
  rw [h1] at h
  omega
theorem own_min30 (a : Int32) (ha : 1 ≤ a.toInt ∧ a.toInt ≤ 2147483647) : (own_minI (a - (1 : Int32)) (30 : Int32)).toInt = if 30 < a.toInt - 1 then 30 else a.toInt - 1 := by
  rw [own_minI_toInt, own_sub1 a ha]
  rfl
theorem own_b (x b : Int64) (h : b = ((x &&& (9223372036854775807 : Int64)) - ((x &&& (9223372036854775807 : Int64)) / (300001 : Int64)) * (300001 : Int64))) : 0 ≤ b.toInt ∧ b.toInt ≤ 300000 := by
  have h1 := (c_andSL x 9223372036854775807).2.2 (by decide)
  have h2 := (c_lrem (x &&& 9223372036854775807) 300001 300001 (by decide)).1 h1
  rw [← h] at h2
  omega
theorem own_a (x a : Int32) (h : a = ((1 : Int32) + ((x &&& (2147483647 : Int32)) % (2147483646 : Int32)))) : 1 ≤ a.toInt ∧ a.toInt ≤ 2147483646 := by
  have h1 := (c_andS x 2147483647).2.2 (by decide)
  have h2 := (c_irem (x &&& 2147483647) 2147483646 2147483646 (by decide)).1 h1
  have h3 := c_iadd 1 ((x &&& 2147483647) % 2147483646)
  have h4 := rng32 a
  have h5 : (1 : Int32).toInt = 1 := by decide
  rw [← h, h2, h5] at h3
  omega
theorem own_base (b : Int64) (hb : 0 ≤ b.toInt ∧ b.toInt ≤ 300000) : lcmpW (own_P b (1 : Int32)) (own_minJ b (300000 : Int64)) = (0 : Int32) := by
  rw [lw_eq, ← Int64.toInt_inj, own_minJ_toInt]
  obtain ⟨h, -⟩ := own_P_toInt b 1 0 hb (by decide) (by decide)
  rw [h]
  have h2 : (300000 : Int64).toInt = 300000 := by decide
  rw [h2]
  simp
theorem own_lohi (b : Int64) (a : Int32) (hb : 0 ≤ b.toInt ∧ b.toInt ≤ 300000) (ha : 1 ≤ a.toInt ∧ a.toInt ≤ 2147483647) : 0 ≤ (own_P b a).toInt ∧ (own_P b a).toInt ≤ 300000 := by
  have h30 := own_min30 a ha
  by_cases h : 30 < a.toInt - 1
  · rw [if_pos h] at h30
    obtain ⟨h1, h2⟩ := own_P_toInt b a 30 hb (by decide) h30
    rw [h1]
    split <;> omega
  · rw [if_neg h] at h30
    obtain ⟨h1, h2⟩ := own_P_toInt b a (a.toInt - 1).toNat hb (by omega) (by omega)
    rw [h1]
    split <;> omega
theorem own_lo (b : Int64) (a : Int32) (hb : 0 ≤ b.toInt ∧ b.toInt ≤ 300000) (ha : 1 ≤ a.toInt ∧ a.toInt ≤ 2147483646) : ¬ (lcmpW (own_P b a) (0 : Int64) < (0 : Int32)) := by
  rw [lw_lt, Int64.lt_iff_toInt_lt]
  have h := own_lohi b a hb ⟨ha.1, by omega⟩
  have h2 : (0 : Int64).toInt = 0 := by decide
  omega
theorem own_hi (b : Int64) (a : Int32) (hb : 0 ≤ b.toInt ∧ b.toInt ≤ 300000) (ha : 1 ≤ a.toInt ∧ a.toInt ≤ 2147483646) : ¬ ((0 : Int32) < lcmpW (own_P b a) (300000 : Int64)) := by
  rw [lw_gt, Int64.lt_iff_toInt_lt]
  have h := own_lohi b a hb ⟨ha.1, by omega⟩
  have h2 : (300000 : Int64).toInt = 300000 := by decide
  omega
theorem own_step (b : Int64) (a : Int32) (hb : 0 ≤ b.toInt ∧ b.toInt ≤ 300000) (ha : 1 ≤ a.toInt ∧ a.toInt ≤ 2147483646) : lcmpW (own_P b (a + (1 : Int32))) (own_minJ ((2 : Int64) * own_P b a) (300000 : Int64)) = (0 : Int32) := by
  rw [lw_eq, ← Int64.toInt_inj, own_minJ_toInt]
  have hl := own_lohi b a hb ⟨ha.1, by omega⟩
  have h2 : (300000 : Int64).toInt = 300000 := by decide
  have hm : ((2 : Int64) * own_P b a).toInt = 2 * (own_P b a).toInt := by
    have h := c_lmul 2 (own_P b a)
    have h3 : (2 : Int64).toInt = 2 := by decide
    have h4 := rng64 (2 * own_P b a)
    rw [h3] at h
    omega
  rw [h2, hm]
  have hp := own_add1 a ha
  have h30 := own_min30 a ⟨ha.1, by omega⟩
  have h31 := own_min30 (a + 1) (by rw [hp]; omega)
  rw [hp] at h31
  by_cases h : 30 < a.toInt - 1
  · rw [if_pos h] at h30
    rw [if_pos (by omega)] at h31
    obtain ⟨h1, h1'⟩ := own_P_toInt b a 30 hb (by decide) h30
    obtain ⟨h3, -⟩ := own_P_toInt b (a + 1) 30 hb (by decide) h31
    rw [h1, h3]
    have : (2 ^ 30 : Nat) = 1073741824 := by decide
    rw [this] at *
    split <;> split <;> omega
  · rw [if_neg h] at h30
    obtain ⟨h1, h1'⟩ := own_P_toInt b a (a.toInt - 1).toNat hb (by omega) (by omega)
    by_cases h' : 30 < a.toInt
    · rw [if_pos (by omega)] at h31
      have e : (a.toInt - 1).toNat = 30 := by omega
      obtain ⟨h3, -⟩ := own_P_toInt b (a + 1) 30 hb (by decide) h31
      rw [e] at h1
      rw [h1, h3]
      have : (2 ^ 30 : Nat) = 1073741824 := by decide
      rw [this] at *
      split <;> split <;> omega
    · rw [if_neg (by omega)] at h31
      obtain ⟨h3, -⟩ := own_P_toInt b (a + 1) ((a.toInt - 1).toNat + 1) hb (by omega) (by omega)
      have e : b.toInt * ((2 ^ ((a.toInt - 1).toNat + 1) : Nat) : Int) = 2 * (b.toInt * ((2 ^ (a.toInt - 1).toNat : Nat) : Int)) := by
        rw [Nat.pow_succ]
        push_cast
        rw [← Int.mul_assoc, Int.mul_comm]
      rw [e] at h3
      rw [h1, h3]
      generalize b.toInt * ((2 ^ (a.toInt - 1).toNat : Nat) : Int) = M at *
      split <;> split <;> omega

theorem d1_0 : decode prog_36_method_1_code 0 = .ok (.aload_n 0, 1) := by decide +kernel
theorem d1_1 : decode prog_36_method_1_code 1 = .ok (.invokespecial 1, 3) := by decide +kernel
theorem d2_0 : decode jdk_30_method_1_code 0 = .ok (.aload_n 0, 1) := by decide +kernel
theorem d2_1 : decode jdk_30_method_1_code 1 = .ok (.invokespecial 1, 3) := by decide +kernel
theorem d2_4 : decode jdk_30_method_1_code 4 = .ok (.return_, 1) := by decide +kernel
theorem ef_2_R (m : MethodId) (x0 : Addr) : entryFrame m #[(.ref x0)] 1 = mkF m 0 #[.val (.ref x0)] [] := by first | (simp [entryFrame, mkF, argsToLocals, Value.category]; done) | rfl
theorem pn_0 : plainName "java/lang/Record" = true := by first | (simp [plainName, overriddenIn]; done) | decide +kernel
def Qrm2 (Z : State) (a1 : Addr) (h0 : Heap) (n0 : Nat) (v : Option Value) (h : Heap) (L : List Loc) : Prop := v = none ∧ Fr n0 L ∧ h = h0
set_option maxRecDepth 65536 in
set_option maxHeartbeats 40000000 in
theorem rm2 (l : Launch) (Z : State) (a0 : Array Value) (hw : ∀ d ∈ tables_1, d.before a0 Z = true) (ws : List Jvm.Cond) (a1 : Addr) (h0 : Heap) (n0 : Nat) (O0 : Old Z n0 h0) :
    MetFree l (⟨"java/lang/Record", "<init>", "()V"⟩ : MethodName) (head1 (Jvm.Cond.code (⟨"java/lang/Record", "<init>", "()V"⟩ : MethodName) jdk_30_method_1_code 1 none :: ws) ({ frames := 1, cells := 0, slots := 0, locals := 12 } : Room)) (fun a U => a = #[(.ref a1)] ∧ Z.Warmed39 U.vm ∧ U.heap = h0) (fun _ _ _ _ _ => True) (fun _ U o U' => ∃ v L, o = .returned v ∧ Qrm2 Z a1 h0 n0 v U'.heap L ∧ FrameEnd U o U' L ({ frames := 1, cells := 0, slots := 0, locals := 12 } : Room).cells ({ frames := 1, cells := 0, slots := 0, locals := 12 } : Room).slots) := by
  refine MetFree.of_bodySF (plainFor_of_name pn_0) hisR ?_
  intro p e s m args below meth c s₁ Bd hml0 hP hK
  obtain ⟨rfl, hZ, hh⟩ := hP
  have hx := Bd.exec
  have hby := Bd.bytes
  have hml : c.maxLocals = 1 := hml0
  have hown : s.vm.findClass "java/lang/Record" = some m.cls := findClass_of_methodNamed Bd.named
  have hnm := (name_of_methodNamed Bd.named Bd.method).1
  have X0 : Stand p l e ({ frames := 1, cells := 0, slots := 0, locals := 12 } : Room) s m #[(.ref a1)] below meth c s₁ [] 0 0 := Stand.of_body Bd
  have e0 : s₁.heap = h0 := by rw [← hh, Bd.state]; rfl
  have N0 := Fr.nil n0
  have pre0 : ∀ t, Steps p.tables e below (s₁.setTop (mkF m 0 #[.val (.ref a1)] [])) t → Steps p.tables e below (s₁.setTop (entryFrame m #[(.ref a1)] 1)) t := fun t k => castTop (ef_2_R m a1) k
  obtain ⟨T2, X2, e2, st2⟩ := initO X0 hx hZ hown (hw _ (List.mem_of_getElem? (i := 15) rfl)) (hw _ (List.mem_of_getElem? (i := 16) rfl)) (hw _ (List.mem_of_getElem? (i := 17) rfl)) e0 (g := (mkF m 1 #[.val (.ref a1)] [(.ref a1)])) rfl (by rw [hml]; rfl) rfl (hb hby d2_1) (by decide) (W := 0) (by show 2 * 0 + _ ≤ _; exact Nat.le_of_eq rfl) (by decide)
  obtain ⟨fs, hr, hrun, hended, hW, hsame⟩ := X2.leave (v := none) (fun _ => rfl)
  refine ⟨_, _, pre0 _ ?_, hrun, hended, _, _, rfl, ?_, ⟨_, rfl⟩, hW, hsame.mono (by decide) (by decide)⟩
  · show Steps p.tables e below (s₁.setTop (mkF m 0 #[.val (.ref a1)] [])) _
    refine XS.aloadN X0.here hx rfl (hb hby d2_0) rfl rfl ?_
    show Steps p.tables e below (s₁.setTop (mkF m 1 #[.val (.ref a1)] [(.ref a1)])) _
    refine st2 _ ?_
    show Steps p.tables e below (T2.setTop (mkF m 4 #[.val (.ref a1)] [])) _
    exact X2.returnOut hx Bd.returns (hb hby d2_4) hr
  · show Qrm2 Z a1 h0 n0 _ T2.heap _
    rw [e2]
    exact ⟨rfl, N0, rfl⟩
theorem pd_1 : parseMethodDescriptor "()V" = some ⟨[], none⟩ := by decide +kernel
theorem d1_4 : decode prog_36_method_1_code 4 = .ok (.aload_n 0, 1) := by decide +kernel
theorem d1_5 : decode prog_36_method_1_code 5 = .ok (.iload_n 1, 1) := by decide +kernel
theorem d1_6 : decode prog_36_method_1_code 6 = .ok (.putfield 7, 3) := by decide +kernel
theorem d1_9 : decode prog_36_method_1_code 9 = .ok (.aload_n 0, 1) := by decide +kernel
theorem d1_10 : decode prog_36_method_1_code 10 = .ok (.lload_n 2, 1) := by decide +kernel
theorem d1_11 : decode prog_36_method_1_code 11 = .ok (.putfield 13, 3) := by decide +kernel
theorem d1_14 : decode prog_36_method_1_code 14 = .ok (.return_, 1) := by decide +kernel
theorem ef_1_RIJ (m : MethodId) (x0 : Addr) (x1 : Int32) (x2 : Int64) : entryFrame m #[(.ref x0), (.int x1), (.long x2)] 4 = mkF m 0 #[.val (.ref x0), .val (.int x1), .val (.long x2), .second] [] := by first | (simp [entryFrame, mkF, argsToLocals, Value.category]; done) | rfl
theorem pn_2 : plainName "com/example/runqueue/runqueue/Retries" = true := by first | (simp [plainName, overriddenIn]; done) | decide +kernel
def Qrm1 (Z : State) (a1 : Addr) (p2 : Int32) (q3 : Int64) (h0 : Heap) (n0 : Nat) (v : Option Value) (h : Heap) (L : List Loc) : Prop := v = none ∧ Fr n0 L ∧ Keep h0 h [a1] ∧ Exa Z h a1 "com/example/runqueue/runqueue/Retries" ∧ Fld Z h a1 "com/example/runqueue/runqueue/Retries" "count" "I" (.int p2) ∧ Fld Z h a1 "com/example/runqueue/runqueue/Retries" "backoffMillis" "J" (.long q3)
set_option maxRecDepth 65536 in
set_option maxHeartbeats 40000000 in
theorem rm1 (l : Launch) (Z : State) (a0 : Array Value) (hw : ∀ d ∈ tables_1, d.before a0 Z = true) (ws : List Jvm.Cond) (a1 : Addr) (p2 : Int32) (q3 : Int64) (h0 : Heap) (n0 : Nat) (O0 : Old Z n0 h0) (E_5 : Exa Z h0 a1 "com/example/runqueue/runqueue/Retries") (F_6 : Fld Z h0 a1 "com/example/runqueue/runqueue/Retries" "count" "I" (.int (0 : Int32))) (g_a1 : n0 ≤ a1) (F_8 : Fld Z h0 a1 "com/example/runqueue/runqueue/Retries" "backoffMillis" "J" (.long (0 : Int64))) :
    MetFree l (⟨"com/example/runqueue/runqueue/Retries", "<init>", "(IJ)V"⟩ : MethodName) (head1 (Jvm.Cond.code (⟨"com/example/runqueue/runqueue/Retries", "<init>", "(IJ)V"⟩ : MethodName) prog_36_method_1_code 4 none :: ws) ({ frames := 2, cells := 0, slots := 0, locals := 24 } : Room)) (fun a U => a = #[(.ref a1), (.int p2), (.long q3)] ∧ Z.Warmed39 U.vm ∧ U.heap = h0) (fun _ _ _ _ _ => True) (fun _ U o U' => ∃ v L, o = .returned v ∧ Qrm1 Z a1 p2 q3 h0 n0 v U'.heap L ∧ FrameEnd U o U' L ({ frames := 2, cells := 0, slots := 0, locals := 24 } : Room).cells ({ frames := 2, cells := 0, slots := 0, locals := 24 } : Room).slots) := by
  refine MetFree.of_bodySF (plainFor_of_name pn_2) hisR ?_
  intro p e s m args below meth c s₁ Bd hml0 hP hK
  obtain ⟨rfl, hZ, hh⟩ := hP
  have hx := Bd.exec
  have hby := Bd.bytes
  have hml : c.maxLocals = 4 := hml0
  have hown : s.vm.findClass "com/example/runqueue/runqueue/Retries" = some m.cls := findClass_of_methodNamed Bd.named
  have hnm := (name_of_methodNamed Bd.named Bd.method).1
  have X0 : Stand p l e ({ frames := 2, cells := 0, slots := 0, locals := 24 } : Room) s m #[(.ref a1), (.int p2), (.long q3)] below meth c s₁ [] 0 0 := Stand.of_body Bd
  have e0 : s₁.heap = h0 := by rw [← hh, Bd.state]; rfl
  have N0 := Fr.nil n0
  have pre0 : ∀ t, Steps p.tables e below (s₁.setTop (mkF m 0 #[.val (.ref a1), .val (.int p2), .val (.long q3), .second] [])) t → Steps p.tables e below (s₁.setTop (entryFrame m #[(.ref a1), (.int p2), (.long q3)] 4)) t := fun t k => castTop (ef_1_RIJ m a1 p2 q3) k
  obtain ⟨_, _, ⟨T4, L4, k4, n4⟩, -, X4, ⟨Lc4, hQ4, l4, y4, z4⟩, st4⟩ := X0.specialBack hx (y := (⟨"java/lang/Record", "<init>", "()V"⟩ : MethodName)) rfl hown (mvT hZ (hw _ (List.mem_of_getElem? (i := 10) rfl))) (mvT hZ (hw _ (List.mem_of_getElem? (i := 11) rfl))) (mvT hZ (hw _ (List.mem_of_getElem? (i := 14) rfl))) (by decide) (backOf (W := 0) (rm2 l Z a0 hw [] a1 h0 n0 O0 ) hZ (hw _ (List.mem_of_getElem? (i := 14) rfl)) (hw _ (List.mem_of_getElem? (i := 13) rfl)) (by decide) (by decide)) (g := (mkF m 1 #[.val (.ref a1), .val (.int p2), .val (.long q3), .second] [(.ref a1)])) rfl (by rw [hml]; rfl) (Steps.refl _) (a := a1) (argsL := []) (rest := []) (lenOf pd_1 rfl) rfl (by show 2 * 0 + _ ≤ _; exact Nat.le_of_eq rfl) (hb hby d1_1) (fun _ _ => ⟨rfl, e0, (by decide : 0 + 0 ≤ _), (by decide : 0 + 0 ≤ _)⟩)
  dsimp only [Pt.U, Pt.locs, Pt.cells, Pt.slots] at X4 l4 y4 z4 st4 hQ4
  subst l4 y4 z4
  obtain ⟨rfl, Nq4, e4⟩ := hQ4
  have N4 := Fr.app N0 Nq4
  obtain ⟨T7, h7, X7, e7, W7, st7⟩ := putF X4 hx hZ hown (host := "") (Or.inl (hw _ (List.mem_of_getElem? (i := 18) rfl))) Via.refl e4 F_6 E_5 (Or.inr ⟨(hw _ (List.mem_of_getElem? (i := 19) rfl)), rfl, hnm⟩) (hw _ (List.mem_of_getElem? (i := 5) rfl)) (ty := .int) (by decide) rfl rfl (g := (mkF m 6 #[.val (.ref a1), .val (.int p2), .val (.long q3), .second] [(.int p2), (.ref a1)])) rfl rfl (hb hby d1_6)
  have K7 : Keep h0 h7 [a1] := (Keep.refl h0 [a1]).wr W7 (Or.inl (List.mem_of_getElem? (i := 0) rfl))
  have O7 : Old Z n0 h7 := O0.wr W7 g_a1
  have N7 := Fr.snoc X7 N4 g_a1
  have Fw7 : Fld Z h7 a1 "com/example/runqueue/runqueue/Retries" "count" "I" (.int p2) := F_6.same W7
  have f9 : Fld Z h7 a1 "com/example/runqueue/runqueue/Retries" "backoffMillis" "J" (.long (0 : Int64)) := (F_8.other W7 (Or.inr (slot_ne (Or.inr (hw _ (List.mem_of_getElem? (i := 21) rfl))) (Or.inr (hw _ (List.mem_of_getElem? (i := 19) rfl))) (by decide) (t := .long) (t' := .int) (by decide) (by decide))))
  have f10 : Exa Z h7 a1 "com/example/runqueue/runqueue/Retries" := (E_5.wr W7)
  obtain ⟨T11, h11, X11, e11, W11, st11⟩ := putF X7 hx hZ hown (host := "") (Or.inl (hw _ (List.mem_of_getElem? (i := 20) rfl))) Via.refl e7 f9 f10 (Or.inr ⟨(hw _ (List.mem_of_getElem? (i := 21) rfl)), rfl, hnm⟩) (hw _ (List.mem_of_getElem? (i := 5) rfl)) (ty := .long) (by decide) rfl rfl (g := (mkF m 11 #[.val (.ref a1), .val (.int p2), .val (.long q3), .second] [(.long q3), (.ref a1)])) rfl rfl (hb hby d1_11)
  have K11 : Keep h0 h11 [a1] := K7.wr W11 (Or.inl (List.mem_of_getElem? (i := 0) rfl))
  have O11 : Old Z n0 h11 := O7.wr W11 g_a1
  have N11 := Fr.snoc X11 N7 g_a1
  have Fw11 : Fld Z h11 a1 "com/example/runqueue/runqueue/Retries" "backoffMillis" "J" (.long q3) := f9.same W11
  have f12 : Exa Z h11 a1 "com/example/runqueue/runqueue/Retries" := (f10.wr W11)
  have f13 : Fld Z h11 a1 "com/example/runqueue/runqueue/Retries" "count" "I" (.int p2) := (Fw7.other W11 (Or.inr (slot_ne (Or.inr (hw _ (List.mem_of_getElem? (i := 19) rfl))) (Or.inr (hw _ (List.mem_of_getElem? (i := 21) rfl))) (by decide) (t := .int) (t' := .long) (by decide) (by decide))))
  obtain ⟨fs, hr, hrun, hended, hW, hsame⟩ := X11.leave (v := none) (fun _ => rfl)
  refine ⟨_, _, pre0 _ ?_, hrun, hended, _, _, rfl, ?_, ⟨_, rfl⟩, hW, hsame.mono (by decide) (by decide)⟩
  · show Steps p.tables e below (s₁.setTop (mkF m 0 #[.val (.ref a1), .val (.int p2), .val (.long q3), .second] [])) _
    refine XS.aloadN X0.here hx rfl (hb hby d1_0) rfl rfl ?_
    show Steps p.tables e below (s₁.setTop (mkF m 1 #[.val (.ref a1), .val (.int p2), .val (.long q3), .second] [(.ref a1)])) _
    refine st4.trans ?_
    show Steps p.tables e below (T4.setTop (mkF m 4 #[.val (.ref a1), .val (.int p2), .val (.long q3), .second] [])) _
    refine XS.aloadN X4.here hx rfl (hb hby d1_4) rfl rfl ?_
    show Steps p.tables e below (T4.setTop (mkF m 5 #[.val (.ref a1), .val (.int p2), .val (.long q3), .second] [(.ref a1)])) _
    refine XS.iloadN X4.here hx rfl (hb hby d1_5) rfl ?_
    show Steps p.tables e below (T4.setTop (mkF m 6 #[.val (.ref a1), .val (.int p2), .val (.long q3), .second] [(.int p2), (.ref a1)])) _
    refine st7 _ ?_
    show Steps p.tables e below (T7.setTop (mkF m 9 #[.val (.ref a1), .val (.int p2), .val (.long q3), .second] [])) _
    refine XS.aloadN X7.here hx rfl (hb hby d1_9) rfl rfl ?_
    show Steps p.tables e below (T7.setTop (mkF m 10 #[.val (.ref a1), .val (.int p2), .val (.long q3), .second] [(.ref a1)])) _
    refine XS.lloadN X7.here hx rfl (hb hby d1_10) rfl ?_
    show Steps p.tables e below (T7.setTop (mkF m 11 #[.val (.ref a1), .val (.int p2), .val (.long q3), .second] [(.long q3), (.ref a1)])) _
    refine st11 _ ?_
    show Steps p.tables e below (T11.setTop (mkF m 14 #[.val (.ref a1), .val (.int p2), .val (.long q3), .second] [])) _
    exact X11.returnOut hx Bd.returns (hb hby d1_14) hr
  · show Qrm1 Z a1 p2 q3 h0 n0 _ T11.heap _
    rw [e11]
    exact ⟨rfl, N11, K11, f12, f13, Fw11⟩
theorem pd_3 : parseMethodDescriptor "(IJ)V" = some ⟨[.int, .long], none⟩ := by decide +kernel
theorem d4_0 : decode prog_36_method_3_code 0 = .ok (.aload_n 0, 1) := by decide +kernel
theorem d4_1 : decode prog_36_method_3_code 1 = .ok (.getfield 13, 3) := by decide +kernel
theorem d4_4 : decode prog_36_method_3_code 4 = .ok (.iload_n 1, 1) := by decide +kernel
theorem d4_5 : decode prog_36_method_3_code 5 = .ok (.iconst 1, 1) := by decide +kernel
theorem d4_6 : decode prog_36_method_3_code 6 = .ok (.isub, 1) := by decide +kernel
theorem d4_7 : decode prog_36_method_3_code 7 = .ok (.bipush 30, 2) := by decide +kernel
theorem d4_9 : decode prog_36_method_3_code 9 = .ok (.invokestatic 45, 3) := by decide +kernel
theorem d5_0 : decode jdk_29_method_69_code 0 = .ok (.iload_n 0, 1) := by decide +kernel
theorem d5_1 : decode jdk_29_method_69_code 1 = .ok (.iload_n 1, 1) := by decide +kernel
theorem d5_2 : decode jdk_29_method_69_code 2 = .ok (.if_icmp .gt 7, 3) := by decide +kernel
theorem d5_9 : decode jdk_29_method_69_code 9 = .ok (.iload_n 1, 1) := by decide +kernel
theorem d5_10 : decode jdk_29_method_69_code 10 = .ok (.ireturn, 1) := by decide +kernel
theorem d5_5 : decode jdk_29_method_69_code 5 = .ok (.iload_n 0, 1) := by decide +kernel
theorem d5_6 : decode jdk_29_method_69_code 6 = .ok (.goto 4, 3) := by decide +kernel
theorem ef_5_II (m : MethodId) (x0 : Int32) (x1 : Int32) : entryFrame m #[(.int x0), (.int x1)] 2 = mkF m 0 #[.val (.int x0), .val (.int x1)] [] := by first | (simp [entryFrame, mkF, argsToLocals, Value.category]; done) | rfl
def Qrm5 (Z : State) (p1 : Int32) (p2 : Int32) (h0 : Heap) (n0 : Nat) (v : Option Value) (h : Heap) (L : List Loc) : Prop := v = some (.int (own_minI p1 p2)) ∧ Fr n0 L ∧ h = h0
set_option maxRecDepth 65536 in
set_option maxHeartbeats 40000000 in
theorem rm5 (l : Launch) (Z : State) (a0 : Array Value) (hw : ∀ d ∈ tables_1, d.before a0 Z = true) (ws : List Jvm.Cond) (p1 : Int32) (p2 : Int32) (h0 : Heap) (n0 : Nat) (O0 : Old Z n0 h0) :
    MetFree l (⟨"java/lang/Math", "min", "(II)I"⟩ : MethodName) (head1 (Jvm.Cond.code (⟨"java/lang/Math", "min", "(II)I"⟩ : MethodName) jdk_29_method_69_code 2 (some .int) :: ws) ({ frames := 0, cells := 0, slots := 0, locals := 0 } : Room)) (fun a U => a = #[(.int p1), (.int p2)] ∧ Z.Warmed39 U.vm ∧ U.heap = h0) (fun _ _ _ _ _ => True) (fun _ U o U' => ∃ v L, o = .returned v ∧ Qrm5 Z p1 p2 h0 n0 v U'.heap L ∧ FrameEnd U o U' L ({ frames := 0, cells := 0, slots := 0, locals := 0 } : Room).cells ({ frames := 0, cells := 0, slots := 0, locals := 0 } : Room).slots) := by
  refine MetFree.of_bodySF (Jvm.Free.JP.mathPlain rfl (by decide +kernel)) hisR ?_
  intro p e s m args below meth c s₁ Bd hml0 hP hK
  obtain ⟨rfl, hZ, hh⟩ := hP
  have hx := Bd.exec
  have hby := Bd.bytes
  have hml : c.maxLocals = 2 := hml0
  have hown : s.vm.findClass "java/lang/Math" = some m.cls := findClass_of_methodNamed Bd.named
  have hnm := (name_of_methodNamed Bd.named Bd.method).1
  have X0 : Stand p l e ({ frames := 0, cells := 0, slots := 0, locals := 0 } : Room) s m #[(.int p1), (.int p2)] below meth c s₁ [] 0 0 := Stand.of_body Bd
  have e0 : s₁.heap = h0 := by rw [← hh, Bd.state]; rfl
  have N0 := Fr.nil n0
  have pre0 : ∀ t, Steps p.tables e below (s₁.setTop (mkF m 0 #[.val (.int p1), .val (.int p2)] [])) t → Steps p.tables e below (s₁.setTop (entryFrame m #[(.int p1), (.int p2)] 2)) t := fun t k => castTop (ef_5_II m p1 p2) k
  have pre3 : ∀ t, Steps p.tables e below (s₁.setTop (mkF m 2 #[.val (.int p1), .val (.int p2)] [(.int p2), (.int p1)])) t → Steps p.tables e below (s₁.setTop (entryFrame m #[(.int p1), (.int p2)] 2)) t := fun t kt => pre0 t (by
    show Steps p.tables e below (s₁.setTop (mkF m 0 #[.val (.int p1), .val (.int p2)] [])) _
    refine XS.iloadN X0.here hx rfl (hb hby d5_0) rfl ?_
    show Steps p.tables e below (s₁.setTop (mkF m 1 #[.val (.int p1), .val (.int p2)] [(.int p1)])) _
    refine XS.iloadN X0.here hx rfl (hb hby d5_1) rfl ?_
    exact kt)
  by_cases hc : p2 < p1
  · obtain ⟨fs, hr, hrun, hended, hW, hsame⟩ := X0.leave (v := some (.int p2)) (fun h => by rw [Bd.returns] at h; cases h)
    refine ⟨_, _, pre3 _ ?_, hrun, hended, _, _, rfl, ?_, ⟨_, rfl⟩, hW, hsame.mono (by decide) (by decide)⟩
    · show Steps p.tables e below (s₁.setTop (mkF m 2 #[.val (.int p1), .val (.int p2)] [(.int p2), (.int p1)])) _
      refine XS.icmpYes X0.here hx rfl (pc0 := 2) (pc' := 9) rfl (hb hby d5_2) rfl (tlt (hc : p2 < p1)).2.2.1 (by decide) (by decide) ?_
      show Steps p.tables e below (s₁.setTop (mkF m 9 #[.val (.int p1), .val (.int p2)] [])) _
      refine XS.iloadN X0.here hx rfl (hb hby d5_9) rfl ?_
      show Steps p.tables e below (s₁.setTop (mkF m 10 #[.val (.int p1), .val (.int p2)] [(.int p2)])) _
      exact retI X0 hx Bd.returns (hb hby d5_10) hr
    · show Qrm5 Z p1 p2 h0 n0 _ s₁.heap _
      rw [e0]
      exact ⟨(by rw [own_minI, if_pos hc]), N0, rfl⟩
  · obtain ⟨fs, hr, hrun, hended, hW, hsame⟩ := X0.leave (v := some (.int p1)) (fun h => by rw [Bd.returns] at h; cases h)
    refine ⟨_, _, pre3 _ ?_, hrun, hended, _, _, rfl, ?_, ⟨_, rfl⟩, hW, hsame.mono (by decide) (by decide)⟩
    · show Steps p.tables e below (s₁.setTop (mkF m 2 #[.val (.int p1), .val (.int p2)] [(.int p2), (.int p1)])) _
      refine XS.icmpNo X0.here hx rfl (hb hby d5_2) rfl (flt (hc : ¬ (p2 < p1))).2.2.1 ?_
      show Steps p.tables e below (s₁.setTop (mkF m 5 #[.val (.int p1), .val (.int p2)] [])) _
      refine XS.iloadN X0.here hx rfl (hb hby d5_5) rfl ?_
      show Steps p.tables e below (s₁.setTop (mkF m 6 #[.val (.int p1), .val (.int p2)] [(.int p1)])) _
      refine XS.goto X0.here hx rfl (pc0 := 6) (pc' := 10) rfl (hb hby d5_6) (by decide) (by decide) ?_
      show Steps p.tables e below (s₁.setTop (mkF m 10 #[.val (.int p1), .val (.int p2)] [(.int p1)])) _
      exact retI X0 hx Bd.returns (hb hby d5_10) hr
    · show Qrm5 Z p1 p2 h0 n0 _ s₁.heap _
      rw [e0]
      exact ⟨(by rw [own_minI, if_neg hc]), N0, rfl⟩
theorem pd_4 : parseMethodDescriptor "(II)I" = some ⟨[.int, .int], some .int⟩ := by decide +kernel
theorem d4_12 : decode prog_36_method_3_code 12 = .ok (.lshl, 1) := by decide +kernel
theorem d4_13 : decode prog_36_method_3_code 13 = .ok (.lstore_n 2, 1) := by decide +kernel
theorem d4_14 : decode prog_36_method_3_code 14 = .ok (.lload_n 2, 1) := by decide +kernel
theorem d4_15 : decode prog_36_method_3_code 15 = .ok (.ldc2_w 51, 3) := by decide +kernel
theorem d4_18 : decode prog_36_method_3_code 18 = .ok (.invokestatic 53, 3) := by decide +kernel
theorem d6_0 : decode jdk_29_method_70_code 0 = .ok (.lload_n 0, 1) := by decide +kernel
theorem d6_1 : decode jdk_29_method_70_code 1 = .ok (.lload_n 2, 1) := by decide +kernel
theorem d6_2 : decode jdk_29_method_70_code 2 = .ok (.lcmp, 1) := by decide +kernel
theorem d6_3 : decode jdk_29_method_70_code 3 = .ok (.ifCond .gt 7, 3) := by decide +kernel
theorem d6_10 : decode jdk_29_method_70_code 10 = .ok (.lload_n 2, 1) := by decide +kernel
theorem d6_11 : decode jdk_29_method_70_code 11 = .ok (.lreturn, 1) := by decide +kernel
theorem d6_6 : decode jdk_29_method_70_code 6 = .ok (.lload_n 0, 1) := by decide +kernel
theorem d6_7 : decode jdk_29_method_70_code 7 = .ok (.goto 4, 3) := by decide +kernel
theorem ef_6_JJ (m : MethodId) (x0 : Int64) (x1 : Int64) : entryFrame m #[(.long x0), (.long x1)] 4 = mkF m 0 #[.val (.long x0), .second, .val (.long x1), .second] [] := by first | (simp [entryFrame, mkF, argsToLocals, Value.category]; done) | rfl
def Qrm6 (Z : State) (q1 : Int64) (q2 : Int64) (h0 : Heap) (n0 : Nat) (v : Option Value) (h : Heap) (L : List Loc) : Prop := v = some (.long (own_minJ q1 q2)) ∧ Fr n0 L ∧ h = h0
set_option maxRecDepth 65536 in
set_option maxHeartbeats 40000000 in
theorem rm6 (l : Launch) (Z : State) (a0 : Array Value) (hw : ∀ d ∈ tables_1, d.before a0 Z = true) (ws : List Jvm.Cond) (q1 : Int64) (q2 : Int64) (h0 : Heap) (n0 : Nat) (O0 : Old Z n0 h0) :
    MetFree l (⟨"java/lang/Math", "min", "(JJ)J"⟩ : MethodName) (head1 (Jvm.Cond.code (⟨"java/lang/Math", "min", "(JJ)J"⟩ : MethodName) jdk_29_method_70_code 4 (some .long) :: ws) ({ frames := 0, cells := 0, slots := 0, locals := 0 } : Room)) (fun a U => a = #[(.long q1), (.long q2)] ∧ Z.Warmed39 U.vm ∧ U.heap = h0) (fun _ _ _ _ _ => True) (fun _ U o U' => ∃ v L, o = .returned v ∧ Qrm6 Z q1 q2 h0 n0 v U'.heap L ∧ FrameEnd U o U' L ({ frames := 0, cells := 0, slots := 0, locals := 0 } : Room).cells ({ frames := 0, cells := 0, slots := 0, locals := 0 } : Room).slots) := by
  refine MetFree.of_bodySF (Jvm.Free.JP.mathPlain rfl (by decide +kernel)) hisR ?_
  intro p e s m args below meth c s₁ Bd hml0 hP hK
  obtain ⟨rfl, hZ, hh⟩ := hP
  have hx := Bd.exec
  have hby := Bd.bytes
  have hml : c.maxLocals = 4 := hml0
  have hown : s.vm.findClass "java/lang/Math" = some m.cls := findClass_of_methodNamed Bd.named
  have hnm := (name_of_methodNamed Bd.named Bd.method).1
  have X0 : Stand p l e ({ frames := 0, cells := 0, slots := 0, locals := 0 } : Room) s m #[(.long q1), (.long q2)] below meth c s₁ [] 0 0 := Stand.of_body Bd
  have e0 : s₁.heap = h0 := by rw [← hh, Bd.state]; rfl
  have N0 := Fr.nil n0
  have pre0 : ∀ t, Steps p.tables e below (s₁.setTop (mkF m 0 #[.val (.long q1), .second, .val (.long q2), .second] [])) t → Steps p.tables e below (s₁.setTop (entryFrame m #[(.long q1), (.long q2)] 4)) t := fun t k => castTop (ef_6_JJ m q1 q2) k
  have pre3 : ∀ t, Steps p.tables e below (s₁.setTop (mkF m 3 #[.val (.long q1), .second, .val (.long q2), .second] [(.int (lcmpW q1 q2))])) t → Steps p.tables e below (s₁.setTop (entryFrame m #[(.long q1), (.long q2)] 4)) t := fun t kt => pre0 t (by
    show Steps p.tables e below (s₁.setTop (mkF m 0 #[.val (.long q1), .second, .val (.long q2), .second] [])) _
    refine XS.lloadN X0.here hx rfl (hb hby d6_0) rfl ?_
    show Steps p.tables e below (s₁.setTop (mkF m 1 #[.val (.long q1), .second, .val (.long q2), .second] [(.long q1)])) _
    refine XS.lloadN X0.here hx rfl (hb hby d6_1) rfl ?_
    show Steps p.tables e below (s₁.setTop (mkF m 2 #[.val (.long q1), .second, .val (.long q2), .second] [(.long q2), (.long q1)])) _
    refine XS.lcmp X0.here hx rfl (hb hby d6_2) rfl ?_
    exact kt)
  by_cases hc : (0 : Int32) < (lcmpW q1 q2)
  · obtain ⟨fs, hr, hrun, hended, hW, hsame⟩ := X0.leave (v := some (.long q2)) (fun h => by rw [Bd.returns] at h; cases h)
    refine ⟨_, _, pre3 _ ?_, hrun, hended, _, _, rfl, ?_, ⟨_, rfl⟩, hW, hsame.mono (by decide) (by decide)⟩
    · show Steps p.tables e below (s₁.setTop (mkF m 3 #[.val (.long q1), .second, .val (.long q2), .second] [(.int (lcmpW q1 q2))])) _
      refine XS.ifYes X0.here hx rfl (pc0 := 3) (pc' := 10) rfl (hb hby d6_3) rfl ((if0 _ _).trans (tlt (hc : (0 : Int32) < (lcmpW q1 q2))).2.2.1) (by decide) (by decide) ?_
      show Steps p.tables e below (s₁.setTop (mkF m 10 #[.val (.long q1), .second, .val (.long q2), .second] [])) _
      refine XS.lloadN X0.here hx rfl (hb hby d6_10) rfl ?_
      show Steps p.tables e below (s₁.setTop (mkF m 11 #[.val (.long q1), .second, .val (.long q2), .second] [(.long q2)])) _
      exact X0.lreturnOut hx Bd.returns (hb hby d6_11) hr
    · show Qrm6 Z q1 q2 h0 n0 _ s₁.heap _
      rw [e0]
      exact ⟨(by rw [own_minJ, if_pos ((lw_gt _ _).mp hc)]), N0, rfl⟩
  · obtain ⟨fs, hr, hrun, hended, hW, hsame⟩ := X0.leave (v := some (.long q1)) (fun h => by rw [Bd.returns] at h; cases h)
    refine ⟨_, _, pre3 _ ?_, hrun, hended, _, _, rfl, ?_, ⟨_, rfl⟩, hW, hsame.mono (by decide) (by decide)⟩
    · show Steps p.tables e below (s₁.setTop (mkF m 3 #[.val (.long q1), .second, .val (.long q2), .second] [(.int (lcmpW q1 q2))])) _
      refine XS.ifNo X0.here hx rfl (hb hby d6_3) rfl ((if0 _ _).trans (flt (hc : ¬ ((0 : Int32) < (lcmpW q1 q2)))).2.2.1) ?_
      show Steps p.tables e below (s₁.setTop (mkF m 6 #[.val (.long q1), .second, .val (.long q2), .second] [])) _
      refine XS.lloadN X0.here hx rfl (hb hby d6_6) rfl ?_
      show Steps p.tables e below (s₁.setTop (mkF m 7 #[.val (.long q1), .second, .val (.long q2), .second] [(.long q1)])) _
      refine XS.goto X0.here hx rfl (pc0 := 7) (pc' := 11) rfl (hb hby d6_7) (by decide) (by decide) ?_
      show Steps p.tables e below (s₁.setTop (mkF m 11 #[.val (.long q1), .second, .val (.long q2), .second] [(.long q1)])) _
      exact X0.lreturnOut hx Bd.returns (hb hby d6_11) hr
    · show Qrm6 Z q1 q2 h0 n0 _ s₁.heap _
      rw [e0]
      exact ⟨(by rw [own_minJ, if_neg (fun q => hc ((lw_gt _ _).mpr q))]), N0, rfl⟩
theorem pd_5 : parseMethodDescriptor "(JJ)J" = some ⟨[.long, .long], some .long⟩ := by decide +kernel
theorem d4_21 : decode prog_36_method_3_code 21 = .ok (.lreturn, 1) := by decide +kernel
theorem ef_4_RI (m : MethodId) (x0 : Addr) (x1 : Int32) : entryFrame m #[(.ref x0), (.int x1)] 4 = mkF m 0 #[.val (.ref x0), .val (.int x1), .unset, .unset] [] := by first | (simp [entryFrame, mkF, argsToLocals, Value.category]; done) | rfl
def Qrm4 (Z : State) (a1 : Addr) (p2 : Int32) (q3 : Int64) (h0 : Heap) (n0 : Nat) (v : Option Value) (h : Heap) (L : List Loc) : Prop := v = some (.long (own_minJ (q3 <<< ((own_minI (p2 - (1 : Int32)) (30 : Int32)) &&& 0x3f).toInt64) (300000 : Int64))) ∧ Fr n0 L ∧ h = h0
set_option maxRecDepth 65536 in
set_option maxHeartbeats 40000000 in
theorem rm4 (l : Launch) (Z : State) (a0 : Array Value) (hw : ∀ d ∈ tables_1, d.before a0 Z = true) (ws : List Jvm.Cond) (a1 : Addr) (p2 : Int32) (q3 : Int64) (h0 : Heap) (n0 : Nat) (O0 : Old Z n0 h0) (F_4 : Fld Z h0 a1 "com/example/runqueue/runqueue/Retries" "backoffMillis" "J" (.long q3)) :
    MetFree l (⟨"com/example/runqueue/runqueue/Retries", "pauseMillis", "(I)J"⟩ : MethodName) (head1 (Jvm.Cond.code (⟨"com/example/runqueue/runqueue/Retries", "pauseMillis", "(I)J"⟩ : MethodName) prog_36_method_3_code 4 (some .long) :: ws) ({ frames := 1, cells := 0, slots := 0, locals := 15 } : Room)) (fun a U => a = #[(.ref a1), (.int p2)] ∧ Z.Warmed39 U.vm ∧ U.heap = h0) (fun _ _ _ _ _ => True) (fun _ U o U' => ∃ v L, o = .returned v ∧ Qrm4 Z a1 p2 q3 h0 n0 v U'.heap L ∧ FrameEnd U o U' L ({ frames := 1, cells := 0, slots := 0, locals := 15 } : Room).cells ({ frames := 1, cells := 0, slots := 0, locals := 15 } : Room).slots) := by
  refine MetFree.of_bodySF (plainFor_of_name pn_2) hisR ?_
  intro p e s m args below meth c s₁ Bd hml0 hP hK
  obtain ⟨rfl, hZ, hh⟩ := hP
  have hx := Bd.exec
  have hby := Bd.bytes
  have hml : c.maxLocals = 4 := hml0
  have hown : s.vm.findClass "com/example/runqueue/runqueue/Retries" = some m.cls := findClass_of_methodNamed Bd.named
  have hnm := (name_of_methodNamed Bd.named Bd.method).1
  have X0 : Stand p l e ({ frames := 1, cells := 0, slots := 0, locals := 15 } : Room) s m #[(.ref a1), (.int p2)] below meth c s₁ [] 0 0 := Stand.of_body Bd
  have e0 : s₁.heap = h0 := by rw [← hh, Bd.state]; rfl
  have N0 := Fr.nil n0
  have pre0 : ∀ t, Steps p.tables e below (s₁.setTop (mkF m 0 #[.val (.ref a1), .val (.int p2), .unset, .unset] [])) t → Steps p.tables e below (s₁.setTop (entryFrame m #[(.ref a1), (.int p2)] 4)) t := fun t k => castTop (ef_4_RI m a1 p2) k
  obtain ⟨T5, X5, e5, st5⟩ := getF X0 hx hZ hown (host := "") (Or.inl (hw _ (List.mem_of_getElem? (i := 20) rfl))) Via.refl e0 F_4 (g := (mkF m 1 #[.val (.ref a1), .val (.int p2), .unset, .unset] [(.ref a1)])) rfl rfl (hb hby d4_1)
  obtain ⟨_, _, ⟨T6, L6, k6, n6⟩, -, X6, ⟨Lc6, hQ6, l6, y6, z6⟩, st6⟩ := Jvm.LawKit.callS X5 hx (y := (⟨"java/lang/Math", "min", "(II)I"⟩ : MethodName)) hown (mvT hZ (hw _ (List.mem_of_getElem? (i := 27) rfl))) (mvT hZ (hw _ (List.mem_of_getElem? (i := 28) rfl))) (mvT hZ (hw _ (List.mem_of_getElem? (i := 29) rfl))) (mvT hZ (hw _ (List.mem_of_getElem? (i := 30) rfl))) (by decide) (backOf (W := 2) (rm5 l Z a0 hw [] (p2 - (1 : Int32)) (30 : Int32) h0 n0 O0 ) hZ (hw _ (List.mem_of_getElem? (i := 30) rfl)) (hw _ (List.mem_of_getElem? (i := 29) rfl)) (by decide) (by decide)) (g := (mkF m 9 #[.val (.ref a1), .val (.int p2), .unset, .unset] [(.int (30 : Int32)), (.int (p2 - (1 : Int32))), (.long q3)])) rfl (by rw [hml]; rfl) (argsL := [(.int (p2 - (1 : Int32))), (.int (30 : Int32))]) (rest := [(.long q3)]) (lenOf pd_4 rfl) rfl (by show 2 * 0 + _ ≤ _; exact Nat.le_of_eq rfl) (hb hby d4_9) (fun _ _ => ⟨rfl, e5, (by decide : 0 + 0 ≤ _), (by decide : 0 + 0 ≤ _)⟩)
  dsimp only [Pt.U, Pt.locs, Pt.cells, Pt.slots] at X6 l6 y6 z6 st6 hQ6
  subst l6 y6 z6
  obtain ⟨rfl, Nq6, e6⟩ := hQ6
  have N6 := Fr.app N0 Nq6
  obtain ⟨_, _, ⟨T7, L7, k7, n7⟩, -, X7, ⟨Lc7, hQ7, l7, y7, z7⟩, st7⟩ := Jvm.LawKit.callS X6 hx (y := (⟨"java/lang/Math", "min", "(JJ)J"⟩ : MethodName)) hown (mvT hZ (hw _ (List.mem_of_getElem? (i := 32) rfl))) (mvT hZ (hw _ (List.mem_of_getElem? (i := 33) rfl))) (mvT hZ (hw _ (List.mem_of_getElem? (i := 29) rfl))) (mvT hZ (hw _ (List.mem_of_getElem? (i := 34) rfl))) (by decide) (backOf (W := 0) (rm6 l Z a0 hw [] (q3 <<< ((own_minI (p2 - (1 : Int32)) (30 : Int32)) &&& 0x3f).toInt64) (300000 : Int64) h0 n0 O0 ) hZ (hw _ (List.mem_of_getElem? (i := 34) rfl)) (hw _ (List.mem_of_getElem? (i := 29) rfl)) (by decide) (by decide)) (g := (mkF m 18 #[.val (.ref a1), .val (.int p2), .val (.long (q3 <<< ((own_minI (p2 - (1 : Int32)) (30 : Int32)) &&& 0x3f).toInt64)), .second] [(.long (300000 : Int64)), (.long (q3 <<< ((own_minI (p2 - (1 : Int32)) (30 : Int32)) &&& 0x3f).toInt64))])) rfl (by rw [hml]; rfl) (argsL := [(.long (q3 <<< ((own_minI (p2 - (1 : Int32)) (30 : Int32)) &&& 0x3f).toInt64)), (.long (300000 : Int64))]) (rest := []) (lenOf pd_5 rfl) rfl (by show 2 * 0 + _ ≤ _; exact Nat.le_of_eq rfl) (hb hby d4_18) (fun _ _ => ⟨rfl, e6, (by decide : 0 + 0 ≤ _), (by decide : 0 + 0 ≤ _)⟩)
  dsimp only [Pt.U, Pt.locs, Pt.cells, Pt.slots] at X7 l7 y7 z7 st7 hQ7
  subst l7 y7 z7
  obtain ⟨rfl, Nq7, e7⟩ := hQ7
  have N7 := Fr.app N6 Nq7
  obtain ⟨fs, hr, hrun, hended, hW, hsame⟩ := X7.leave (v := some (.long (own_minJ (q3 <<< ((own_minI (p2 - (1 : Int32)) (30 : Int32)) &&& 0x3f).toInt64) (300000 : Int64)))) (fun h => by rw [Bd.returns] at h; cases h)
  refine ⟨_, _, pre0 _ ?_, hrun, hended, _, _, rfl, ?_, ⟨_, rfl⟩, hW, hsame.mono (by decide) (by decide)⟩
  · show Steps p.tables e below (s₁.setTop (mkF m 0 #[.val (.ref a1), .val (.int p2), .unset, .unset] [])) _
    refine XS.aloadN X0.here hx rfl (hb hby d4_0) rfl rfl ?_
    show Steps p.tables e below (s₁.setTop (mkF m 1 #[.val (.ref a1), .val (.int p2), .unset, .unset] [(.ref a1)])) _
    refine st5 _ ?_
    show Steps p.tables e below (T5.setTop (mkF m 4 #[.val (.ref a1), .val (.int p2), .unset, .unset] [(.long q3)])) _
    refine XS.iloadN X5.here hx rfl (hb hby d4_4) rfl ?_
    show Steps p.tables e below (T5.setTop (mkF m 5 #[.val (.ref a1), .val (.int p2), .unset, .unset] [(.int p2), (.long q3)])) _
    refine XS.iconst X5.here hx rfl (hb hby d4_5) ?_
    show Steps p.tables e below (T5.setTop (mkF m 6 #[.val (.ref a1), .val (.int p2), .unset, .unset] [(.int (1 : Int32)), (.int p2), (.long q3)])) _
    refine XS.isub X5.here hx rfl (hb hby d4_6) rfl ?_
    show Steps p.tables e below (T5.setTop (mkF m 7 #[.val (.ref a1), .val (.int p2), .unset, .unset] [(.int (p2 - (1 : Int32))), (.long q3)])) _
    refine XS.bipush X5.here hx rfl (hb hby d4_7) ?_
    show Steps p.tables e below (T5.setTop (mkF m 9 #[.val (.ref a1), .val (.int p2), .unset, .unset] [(.int (30 : Int32)), (.int (p2 - (1 : Int32))), (.long q3)])) _
    refine st6 _ ?_
    show Steps p.tables e below (T6.setTop (mkF m 12 #[.val (.ref a1), .val (.int p2), .unset, .unset] [(.int (own_minI (p2 - (1 : Int32)) (30 : Int32))), (.long q3)])) _
    refine XS.lshl X6.here hx rfl (hb hby d4_12) rfl ?_
    show Steps p.tables e below (T6.setTop (mkF m 13 #[.val (.ref a1), .val (.int p2), .unset, .unset] [(.long (q3 <<< ((own_minI (p2 - (1 : Int32)) (30 : Int32)) &&& 0x3f).toInt64))])) _
    refine XS.lstoreN X6.here hx rfl (hb hby d4_13) rfl (l' := #[.val (.ref a1), .val (.int p2), .val (.long (q3 <<< ((own_minI (p2 - (1 : Int32)) (30 : Int32)) &&& 0x3f).toInt64)), .second]) rfl ?_
    show Steps p.tables e below (T6.setTop (mkF m 14 #[.val (.ref a1), .val (.int p2), .val (.long (q3 <<< ((own_minI (p2 - (1 : Int32)) (30 : Int32)) &&& 0x3f).toInt64)), .second] [])) _
    refine XS.lloadN X6.here hx rfl (hb hby d4_14) rfl ?_
    show Steps p.tables e below (T6.setTop (mkF m 15 #[.val (.ref a1), .val (.int p2), .val (.long (q3 <<< ((own_minI (p2 - (1 : Int32)) (30 : Int32)) &&& 0x3f).toInt64)), .second] [(.long (q3 <<< ((own_minI (p2 - (1 : Int32)) (30 : Int32)) &&& 0x3f).toInt64))])) _
    refine X6.ldc2Long hx hown (mvT hZ (hw _ (List.mem_of_getElem? (i := 31) rfl))) (g := (mkF m 15 #[.val (.ref a1), .val (.int p2), .val (.long (q3 <<< ((own_minI (p2 - (1 : Int32)) (30 : Int32)) &&& 0x3f).toInt64)), .second] [(.long (q3 <<< ((own_minI (p2 - (1 : Int32)) (30 : Int32)) &&& 0x3f).toInt64))])) rfl (hb hby d4_15) _ ?_
    show Steps p.tables e below (T6.setTop (mkF m 18 #[.val (.ref a1), .val (.int p2), .val (.long (q3 <<< ((own_minI (p2 - (1 : Int32)) (30 : Int32)) &&& 0x3f).toInt64)), .second] [(.long (300000 : Int64)), (.long (q3 <<< ((own_minI (p2 - (1 : Int32)) (30 : Int32)) &&& 0x3f).toInt64))])) _
    refine st7 _ ?_
    show Steps p.tables e below (T7.setTop (mkF m 21 #[.val (.ref a1), .val (.int p2), .val (.long (q3 <<< ((own_minI (p2 - (1 : Int32)) (30 : Int32)) &&& 0x3f).toInt64)), .second] [(.long (own_minJ (q3 <<< ((own_minI (p2 - (1 : Int32)) (30 : Int32)) &&& 0x3f).toInt64) (300000 : Int64)))])) _
    exact X7.lreturnOut hx Bd.returns (hb hby d4_21) hr
  · show Qrm4 Z a1 p2 q3 h0 n0 _ T7.heap _
    rw [e7]
    exact ⟨rfl, N7, rfl⟩
theorem pd_6 : parseMethodDescriptor "(I)J" = some ⟨[.int], some .long⟩ := by decide +kernel
theorem ef_0_IJI (m : MethodId) (x0 : Int32) (x1 : Int64) (x2 : Int32) : entryFrame m #[(.int x0), (.long x1), (.int x2)] maxLocals = mkF m 0 #[.val (.int x0), .val (.long x1), .second, .val (.int x2), .unset, .unset, .unset, .unset, .unset, .unset, .unset, .unset, .unset, .unset, .unset, .unset, .unset] [] := by first | (simp [entryFrame, mkF, argsToLocals, Value.category, maxLocals]; done) | rfl
theorem pn_7 : plainName "com/example/runqueue/runqueue/RetriesPauseMillisPinLaw" = true := by first | (simp [plainName, overriddenIn]; done) | decide +kernel
def Qrm0 (Z : State) (p1 : Int32) (q2 : Int64) (p3 : Int32) (h0 : Heap) (n0 : Nat) (v : Option Value) (h : Heap) (L : List Loc) : Prop := v = some (.int (1 : Int32)) ∧ Fr n0 L
set_option maxRecDepth 65536 in
set_option maxHeartbeats 40000000 in
theorem rm0 (l : Launch) (Z : State) (a0 : Array Value) (hw : ∀ d ∈ tables_1, d.before a0 Z = true) (ws : List Jvm.Cond) (p1 : Int32) (q2 : Int64) (p3 : Int32) (h0 : Heap) (n0 : Nat) (O0 : Old Z n0 h0) :
    MetFree l x (head1 (Jvm.Cond.code x code maxLocals ret :: ws) room_1) (fun a U => a = #[(.int p1), (.long q2), (.int p3)] ∧ Z.Warmed39 U.vm ∧ U.heap = h0) (fun _ _ _ _ _ => True) (fun _ U o U' => ∃ v L, o = .returned v ∧ Qrm0 Z p1 q2 p3 h0 n0 v U'.heap L ∧ FrameEnd U o U' L room_1.cells room_1.slots) := by
  refine MetFree.of_bodySF (plainFor_of_name pn_7) hisR ?_
  intro p e s m args below meth c s₁ Bd hml0 hP hK
  obtain ⟨rfl, hZ, hh⟩ := hP
  have hx := Bd.exec
  have hby := Bd.bytes
  have hml : c.maxLocals = 17 := hml0
  have hown : s.vm.findClass "com/example/runqueue/runqueue/RetriesPauseMillisPinLaw" = some m.cls := findClass_of_methodNamed Bd.named
  have hnm := (name_of_methodNamed Bd.named Bd.method).1
  have X0 : Stand p l e room_1 s m #[(.int p1), (.long q2), (.int p3)] below meth c s₁ [] 0 0 := Stand.of_body Bd
  have e0 : s₁.heap = h0 := by rw [← hh, Bd.state]; rfl
  have N0 := Fr.nil n0
  have pre0 : ∀ t, Steps p.tables e below (s₁.setTop (mkF m 0 #[.val (.int p1), .val (.long q2), .second, .val (.int p3), .unset, .unset, .unset, .unset, .unset, .unset, .unset, .unset, .unset, .unset, .unset, .unset, .unset] [])) t → Steps p.tables e below (s₁.setTop (entryFrame m #[(.int p1), (.long q2), (.int p3)] maxLocals)) t := fun t k => castTop (ef_0_IJI m p1 q2 p3) k
  obtain ⟨bb, h_bb⟩ : ∃ z : Int64, z = ((q2 &&& (9223372036854775807 : Int64)) - ((q2 &&& (9223372036854775807 : Int64)) / (300001 : Int64)) * (300001 : Int64)) := ⟨_, rfl⟩
  obtain ⟨aa, h_aa⟩ : ∃ z : Int32, z = ((1 : Int32) + ((p3 &&& (2147483647 : Int32)) % (2147483646 : Int32))) := ⟨_, rfl⟩
  have hb0 := own_b q2 bb h_bb
  have ha0 := own_a p3 aa h_aa
  obtain ⟨T4, h4, X4, e4, E4, A4, D4, U4, st4⟩ := newO X0 hx hZ hown (hw _ (List.mem_of_getElem? (i := 4) rfl)) (hw _ (List.mem_of_getElem? (i := 5) rfl)) (hw _ (List.mem_of_getElem? (i := 6) rfl)) e0 (g := (mkF m 22 #[.val (.int p1), .val (.long q2), .second, .val (.int p3), .val (.long bb), .second, .val (.int aa), .unset, .unset, .unset, .unset, .unset, .unset, .unset, .unset, .unset, .unset] [])) rfl (hb hby at_22) (by decide) (by decide)
  obtain ⟨b4, g4⟩ : ∃ z, z = h0.size := ⟨_, rfl⟩
  rw [← g4] at A4 D4 U4 st4
  have g_b4 : n0 ≤ b4 := own_born O0 (own_eqle g4)
  have sz_b4 : h0.size ≤ b4 := Nat.le_trans (Keep.refl h0 []).1 (own_eqle g4)
  have K4 : Keep h0 h4 [] := (Keep.refl h0 []).ext E4
  have O4 : Old Z n0 h4 := O0.ext E4
  have F4_count : Fld Z h4 b4 "com/example/runqueue/runqueue/Retries" "count" "I" (.int (0 : Int32)) := D4 (Or.inr (hw _ (List.mem_of_getElem? (i := 19) rfl))) (ty := .int) (by decide)
  have F4_backoffMillis : Fld Z h4 b4 "com/example/runqueue/runqueue/Retries" "backoffMillis" "J" (.long (0 : Int64)) := D4 (Or.inr (hw _ (List.mem_of_getElem? (i := 21) rfl))) (ty := .long) (by decide)
  obtain ⟨_, _, ⟨T5, L5, k5, n5⟩, -, X5, ⟨Lc5, hQ5, l5, y5, z5⟩, st5⟩ := X4.specialBack hx (y := (⟨"com/example/runqueue/runqueue/Retries", "<init>", "(IJ)V"⟩ : MethodName)) rfl hown (mvT hZ (hw _ (List.mem_of_getElem? (i := 7) rfl))) (mvT hZ (hw _ (List.mem_of_getElem? (i := 8) rfl))) (mvT hZ (hw _ (List.mem_of_getElem? (i := 9) rfl))) (by decide) (backOf (W := 1) (rm1 l Z a0 hw [] b4 p1 bb h4 n0 O4 A4 F4_count g_b4 F4_backoffMillis) hZ (hw _ (List.mem_of_getElem? (i := 9) rfl)) (hw _ (List.mem_of_getElem? (i := 6) rfl)) (by decide) (by decide)) (g := (mkF m 29 #[.val (.int p1), .val (.long q2), .second, .val (.int p3), .val (.long bb), .second, .val (.int aa), .unset, .unset, .unset, .unset, .unset, .unset, .unset, .unset, .unset, .unset] [(.long bb), (.int p1), (.ref b4), (.ref b4)])) rfl (by rw [hml]; rfl) (Steps.refl _) (a := b4) (argsL := [(.int p1), (.long bb)]) (rest := [(.ref b4)]) (lenOf pd_3 rfl) rfl (by show 2 * 0 + _ ≤ _; exact Nat.le_of_eq rfl) (hb hby at_29) (fun _ _ => ⟨rfl, e4, (by decide : 1 + 0 ≤ _), (by decide : 2 + 0 ≤ _)⟩)
  dsimp only [Pt.U, Pt.locs, Pt.cells, Pt.slots] at X5 l5 y5 z5 st5 hQ5
  subst l5 y5 z5
  obtain ⟨rfl, Nq5, K5, P5_0, P5_1, P5_2⟩ := hQ5
  have N5 := Fr.app N0 Nq5
  have KK5 : Keep h0 T5.heap [] := Keep.trans (h := h4) K4 K5 (allS (Or.inr sz_b4) all0)
  have O5 : Old Z n0 T5.heap := O4.keep K5 (allS g_b4 all0)
  obtain ⟨cq6, kq6, q6a, q6b, q6c⟩ := isOf hZ rfl P5_0
  obtain ⟨_, _, ⟨T6, L6, k6, n6⟩, -, X6, ⟨Lc6, hQ6, l6, y6, z6⟩, st6⟩ := X5.virtualBack hx (y := (⟨"com/example/runqueue/runqueue/Retries", "pauseMillis", "(I)J"⟩ : MethodName)) (z := (⟨"com/example/runqueue/runqueue/Retries", "pauseMillis", "(I)J"⟩ : MethodName)) hown (mvT hZ (hw _ (List.mem_of_getElem? (i := 22) rfl))) (mvT hZ (hw _ (List.mem_of_getElem? (i := 23) rfl))) (notFace_of_selects (args := #[]) (mvT hZ (hw _ (List.mem_of_getElem? (i := 25) rfl)))) (mvT hZ (hw _ (List.mem_of_getElem? (i := 25) rfl))) (mvT hZ (hw _ (List.mem_of_getElem? (i := 24) rfl))) (by decide) (backOf (W := 0) (rm4 l Z a0 hw [] b4 (1 : Int32) bb T5.heap n0 O5 P5_2) hZ (hw _ (List.mem_of_getElem? (i := 26) rfl)) (hw _ (List.mem_of_getElem? (i := 6) rfl)) (by decide) (by decide)) q6a q6c (g := (mkF m 37 #[.val (.int p1), .val (.long q2), .second, .val (.int p3), .val (.long bb), .second, .val (.int aa), .val (.ref b4), .unset, .unset, .unset, .unset, .unset, .unset, .unset, .unset, .unset] [(.int (1 : Int32)), (.ref b4)])) rfl (by rw [hml]; rfl) (Steps.refl _) (argsL := [(.int (1 : Int32))]) (rest := []) (lenOf pd_6 rfl) rfl (by show 2 * 0 + _ ≤ _; exact Nat.le_of_eq rfl) (hb hby at_37) (fun _ _ => ⟨rfl, rfl, (by decide : 1 + 0 ≤ _), (by decide : 2 + 0 ≤ _)⟩)
  dsimp only [Pt.U, Pt.locs, Pt.cells, Pt.slots] at X6 l6 y6 z6 st6 hQ6
  subst l6 y6 z6
  obtain ⟨rfl, Nq6, e6⟩ := hQ6
  have N6 := Fr.app N5 Nq6
  obtain ⟨cq7, kq7, q7a, q7b, q7c⟩ := isOf hZ e6 P5_0
  obtain ⟨_, _, ⟨T7, L7, k7, n7⟩, -, X7, ⟨Lc7, hQ7, l7, y7, z7⟩, st7⟩ := X6.virtualBack hx (y := (⟨"com/example/runqueue/runqueue/Retries", "pauseMillis", "(I)J"⟩ : MethodName)) (z := (⟨"com/example/runqueue/runqueue/Retries", "pauseMillis", "(I)J"⟩ : MethodName)) hown (mvT hZ (hw _ (List.mem_of_getElem? (i := 22) rfl))) (mvT hZ (hw _ (List.mem_of_getElem? (i := 23) rfl))) (notFace_of_selects (args := #[]) (mvT hZ (hw _ (List.mem_of_getElem? (i := 25) rfl)))) (mvT hZ (hw _ (List.mem_of_getElem? (i := 25) rfl))) (mvT hZ (hw _ (List.mem_of_getElem? (i := 24) rfl))) (by decide) (backOf (W := 0) (rm4 l Z a0 hw [] b4 aa bb T5.heap n0 O5 P5_2) hZ (hw _ (List.mem_of_getElem? (i := 26) rfl)) (hw _ (List.mem_of_getElem? (i := 6) rfl)) (by decide) (by decide)) q7a q7c (g := (mkF m 46 #[.val (.int p1), .val (.long q2), .second, .val (.int p3), .val (.long bb), .second, .val (.int aa), .val (.ref b4), .val (.long (own_minJ (bb <<< ((own_minI ((1 : Int32) - (1 : Int32)) (30 : Int32)) &&& 0x3f).toInt64) (300000 : Int64))), .second, .unset, .unset, .unset, .unset, .unset, .unset, .unset] [(.int aa), (.ref b4)])) rfl (by rw [hml]; rfl) (Steps.refl _) (argsL := [(.int aa)]) (rest := []) (lenOf pd_6 rfl) rfl (by show 2 * 0 + _ ≤ _; exact Nat.le_of_eq rfl) (hb hby at_46) (fun _ _ => ⟨rfl, e6, (by decide : 1 + 0 ≤ _), (by decide : 2 + 0 ≤ _)⟩)
  dsimp only [Pt.U, Pt.locs, Pt.cells, Pt.slots] at X7 l7 y7 z7 st7 hQ7
  subst l7 y7 z7
  obtain ⟨rfl, Nq7, e7⟩ := hQ7
  have N7 := Fr.app N6 Nq7
  obtain ⟨cq8, kq8, q8a, q8b, q8c⟩ := isOf hZ e7 P5_0
  obtain ⟨_, _, ⟨T8, L8, k8, n8⟩, -, X8, ⟨Lc8, hQ8, l8, y8, z8⟩, st8⟩ := X7.virtualBack hx (y := (⟨"com/example/runqueue/runqueue/Retries", "pauseMillis", "(I)J"⟩ : MethodName)) (z := (⟨"com/example/runqueue/runqueue/Retries", "pauseMillis", "(I)J"⟩ : MethodName)) hown (mvT hZ (hw _ (List.mem_of_getElem? (i := 22) rfl))) (mvT hZ (hw _ (List.mem_of_getElem? (i := 23) rfl))) (notFace_of_selects (args := #[]) (mvT hZ (hw _ (List.mem_of_getElem? (i := 25) rfl)))) (mvT hZ (hw _ (List.mem_of_getElem? (i := 25) rfl))) (mvT hZ (hw _ (List.mem_of_getElem? (i := 24) rfl))) (by decide) (backOf (W := 0) (rm4 l Z a0 hw [] b4 (aa + (1 : Int32)) bb T5.heap n0 O5 P5_2) hZ (hw _ (List.mem_of_getElem? (i := 26) rfl)) (hw _ (List.mem_of_getElem? (i := 6) rfl)) (by decide) (by decide)) q8a q8c (g := (mkF m 57 #[.val (.int p1), .val (.long q2), .second, .val (.int p3), .val (.long bb), .second, .val (.int aa), .val (.ref b4), .val (.long (own_minJ (bb <<< ((own_minI ((1 : Int32) - (1 : Int32)) (30 : Int32)) &&& 0x3f).toInt64) (300000 : Int64))), .second, .val (.long (own_minJ (bb <<< ((own_minI (aa - (1 : Int32)) (30 : Int32)) &&& 0x3f).toInt64) (300000 : Int64))), .second, .unset, .unset, .unset, .unset, .unset] [(.int (aa + (1 : Int32))), (.ref b4)])) rfl (by rw [hml]; rfl) (Steps.refl _) (argsL := [(.int (aa + (1 : Int32)))]) (rest := []) (lenOf pd_6 rfl) rfl (by show 2 * 0 + _ ≤ _; exact Nat.le_of_eq rfl) (hb hby at_57) (fun _ _ => ⟨rfl, e7, (by decide : 1 + 0 ≤ _), (by decide : 2 + 0 ≤ _)⟩)
  dsimp only [Pt.U, Pt.locs, Pt.cells, Pt.slots] at X8 l8 y8 z8 st8 hQ8
  subst l8 y8 z8
  obtain ⟨rfl, Nq8, e8⟩ := hQ8
  have N8 := Fr.app N7 Nq8
  obtain ⟨_, _, ⟨T9, L9, k9, n9⟩, -, X9, ⟨Lc9, hQ9, l9, y9, z9⟩, st9⟩ := Jvm.LawKit.callS X8 hx (y := (⟨"java/lang/Math", "min", "(JJ)J"⟩ : MethodName)) hown (mvT hZ (hw _ (List.mem_of_getElem? (i := 36) rfl))) (mvT hZ (hw _ (List.mem_of_getElem? (i := 33) rfl))) (mvT hZ (hw _ (List.mem_of_getElem? (i := 29) rfl))) (mvT hZ (hw _ (List.mem_of_getElem? (i := 34) rfl))) (by decide) (backOf (W := 2) (rm6 l Z a0 hw [] bb (300000 : Int64) T5.heap n0 O5 ) hZ (hw _ (List.mem_of_getElem? (i := 34) rfl)) (hw _ (List.mem_of_getElem? (i := 29) rfl)) (by decide) (by decide)) (g := (mkF m 69 #[.val (.int p1), .val (.long q2), .second, .val (.int p3), .val (.long bb), .second, .val (.int aa), .val (.ref b4), .val (.long (own_minJ (bb <<< ((own_minI ((1 : Int32) - (1 : Int32)) (30 : Int32)) &&& 0x3f).toInt64) (300000 : Int64))), .second, .val (.long (own_minJ (bb <<< ((own_minI (aa - (1 : Int32)) (30 : Int32)) &&& 0x3f).toInt64) (300000 : Int64))), .second, .val (.long (own_minJ (bb <<< ((own_minI ((aa + (1 : Int32)) - (1 : Int32)) (30 : Int32)) &&& 0x3f).toInt64) (300000 : Int64))), .second, .unset, .unset, .unset] [(.long (300000 : Int64)), (.long bb), (.long (own_minJ (bb <<< ((own_minI ((1 : Int32) - (1 : Int32)) (30 : Int32)) &&& 0x3f).toInt64) (300000 : Int64)))])) rfl (by rw [hml]; rfl) (argsL := [(.long bb), (.long (300000 : Int64))]) (rest := [(.long (own_minJ (bb <<< ((own_minI ((1 : Int32) - (1 : Int32)) (30 : Int32)) &&& 0x3f).toInt64) (300000 : Int64)))]) (lenOf pd_5 rfl) rfl (by show 2 * 0 + _ ≤ _; exact Nat.le_of_eq rfl) (hb hby at_69) (fun _ _ => ⟨rfl, e8, (by decide : 1 + 0 ≤ _), (by decide : 2 + 0 ≤ _)⟩)
  dsimp only [Pt.U, Pt.locs, Pt.cells, Pt.slots] at X9 l9 y9 z9 st9 hQ9
  subst l9 y9 z9
  obtain ⟨rfl, Nq9, e9⟩ := hQ9
  have N9 := Fr.app N8 Nq9
  obtain ⟨_, _, ⟨T10, L10, k10, n10⟩, -, X10, ⟨Lc10, hQ10, l10, y10, z10⟩, st10⟩ := Jvm.LawKit.callS X9 hx (y := (⟨"java/lang/Math", "min", "(JJ)J"⟩ : MethodName)) hown (mvT hZ (hw _ (List.mem_of_getElem? (i := 36) rfl))) (mvT hZ (hw _ (List.mem_of_getElem? (i := 33) rfl))) (mvT hZ (hw _ (List.mem_of_getElem? (i := 29) rfl))) (mvT hZ (hw _ (List.mem_of_getElem? (i := 34) rfl))) (by decide) (backOf (W := 2) (rm6 l Z a0 hw [] ((2 : Int64) * (own_minJ (bb <<< ((own_minI (aa - (1 : Int32)) (30 : Int32)) &&& 0x3f).toInt64) (300000 : Int64))) (300000 : Int64) T5.heap n0 O5 ) hZ (hw _ (List.mem_of_getElem? (i := 34) rfl)) (hw _ (List.mem_of_getElem? (i := 29) rfl)) (by decide) (by decide)) (g := (mkF m 94 #[.val (.int p1), .val (.long q2), .second, .val (.int p3), .val (.long bb), .second, .val (.int aa), .val (.ref b4), .val (.long (own_minJ (bb <<< ((own_minI ((1 : Int32) - (1 : Int32)) (30 : Int32)) &&& 0x3f).toInt64) (300000 : Int64))), .second, .val (.long (own_minJ (bb <<< ((own_minI (aa - (1 : Int32)) (30 : Int32)) &&& 0x3f).toInt64) (300000 : Int64))), .second, .val (.long (own_minJ (bb <<< ((own_minI ((aa + (1 : Int32)) - (1 : Int32)) (30 : Int32)) &&& 0x3f).toInt64) (300000 : Int64))), .second, .val (.int (1 : Int32)), .unset, .unset] [(.long (300000 : Int64)), (.long ((2 : Int64) * (own_minJ (bb <<< ((own_minI (aa - (1 : Int32)) (30 : Int32)) &&& 0x3f).toInt64) (300000 : Int64)))), (.long (own_minJ (bb <<< ((own_minI ((aa + (1 : Int32)) - (1 : Int32)) (30 : Int32)) &&& 0x3f).toInt64) (300000 : Int64)))])) rfl (by rw [hml]; rfl) (argsL := [(.long ((2 : Int64) * (own_minJ (bb <<< ((own_minI (aa - (1 : Int32)) (30 : Int32)) &&& 0x3f).toInt64) (300000 : Int64)))), (.long (300000 : Int64))]) (rest := [(.long (own_minJ (bb <<< ((own_minI ((aa + (1 : Int32)) - (1 : Int32)) (30 : Int32)) &&& 0x3f).toInt64) (300000 : Int64)))]) (lenOf pd_5 rfl) rfl (by show 2 * 0 + _ ≤ _; exact Nat.le_of_eq rfl) (hb hby at_94) (fun _ _ => ⟨rfl, e9, (by decide : 1 + 0 ≤ _), (by decide : 2 + 0 ≤ _)⟩)
  dsimp only [Pt.U, Pt.locs, Pt.cells, Pt.slots] at X10 l10 y10 z10 st10 hQ10
  subst l10 y10 z10
  obtain ⟨rfl, Nq10, e10⟩ := hQ10
  have N10 := Fr.app N9 Nq10
  obtain ⟨fs, hr, hrun, hended, hW, hsame⟩ := X10.leave (v := some (.int (1 : Int32))) (fun h => by rw [Bd.returns] at h; cases h)
  refine ⟨_, _, pre0 _ ?_, hrun, hended, _, _, rfl, ?_, ⟨_, rfl⟩, hW, hsame.mono (by decide) (by decide)⟩
  · show Steps p.tables e below (s₁.setTop (mkF m 0 #[.val (.int p1), .val (.long q2), .second, .val (.int p3), .unset, .unset, .unset, .unset, .unset, .unset, .unset, .unset, .unset, .unset, .unset, .unset, .unset] [])) _
    refine XS.lloadN X0.here hx rfl (hb hby at_0) rfl ?_
    show Steps p.tables e below (s₁.setTop (mkF m 1 #[.val (.int p1), .val (.long q2), .second, .val (.int p3), .unset, .unset, .unset, .unset, .unset, .unset, .unset, .unset, .unset, .unset, .unset, .unset, .unset] [(.long q2)])) _
    refine X0.ldc2Long hx hown (mvT hZ (hw _ (List.mem_of_getElem? (i := 0) rfl))) (g := (mkF m 1 #[.val (.int p1), .val (.long q2), .second, .val (.int p3), .unset, .unset, .unset, .unset, .unset, .unset, .unset, .unset, .unset, .unset, .unset, .unset, .unset] [(.long q2)])) rfl (hb hby at_1) _ ?_
    show Steps p.tables e below (s₁.setTop (mkF m 4 #[.val (.int p1), .val (.long q2), .second, .val (.int p3), .unset, .unset, .unset, .unset, .unset, .unset, .unset, .unset, .unset, .unset, .unset, .unset, .unset] [(.long (9223372036854775807 : Int64)), (.long q2)])) _
    refine XS.land X0.here hx rfl (hb hby at_4) rfl ?_
    show Steps p.tables e below (s₁.setTop (mkF m 5 #[.val (.int p1), .val (.long q2), .second, .val (.int p3), .unset, .unset, .unset, .unset, .unset, .unset, .unset, .unset, .unset, .unset, .unset, .unset, .unset] [(.long (q2 &&& (9223372036854775807 : Int64)))])) _
    refine X0.ldc2Long hx hown (mvT hZ (hw _ (List.mem_of_getElem? (i := 1) rfl))) (g := (mkF m 5 #[.val (.int p1), .val (.long q2), .second, .val (.int p3), .unset, .unset, .unset, .unset, .unset, .unset, .unset, .unset, .unset, .unset, .unset, .unset, .unset] [(.long (q2 &&& (9223372036854775807 : Int64)))])) rfl (hb hby at_5) _ ?_
    show Steps p.tables e below (s₁.setTop (mkF m 8 #[.val (.int p1), .val (.long q2), .second, .val (.int p3), .unset, .unset, .unset, .unset, .unset, .unset, .unset, .unset, .unset, .unset, .unset, .unset, .unset] [(.long (300001 : Int64)), (.long (q2 &&& (9223372036854775807 : Int64)))])) _
    refine XS.lrem X0.here hx rfl (hb hby at_8) rfl (by decide) ?_
    show Steps p.tables e below (s₁.setTop (mkF m 9 #[.val (.int p1), .val (.long q2), .second, .val (.int p3), .unset, .unset, .unset, .unset, .unset, .unset, .unset, .unset, .unset, .unset, .unset, .unset, .unset] [(.long ((q2 &&& (9223372036854775807 : Int64)) - ((q2 &&& (9223372036854775807 : Int64)) / (300001 : Int64)) * (300001 : Int64)))])) _
    refine XS.lstore X0.here hx rfl (hb hby at_9) rfl (l' := #[.val (.int p1), .val (.long q2), .second, .val (.int p3), .val (.long ((q2 &&& (9223372036854775807 : Int64)) - ((q2 &&& (9223372036854775807 : Int64)) / (300001 : Int64)) * (300001 : Int64))), .second, .unset, .unset, .unset, .unset, .unset, .unset, .unset, .unset, .unset, .unset, .unset]) rfl ?_
    show Steps p.tables e below (s₁.setTop (mkF m 11 #[.val (.int p1), .val (.long q2), .second, .val (.int p3), .val (.long ((q2 &&& (9223372036854775807 : Int64)) - ((q2 &&& (9223372036854775807 : Int64)) / (300001 : Int64)) * (300001 : Int64))), .second, .unset, .unset, .unset, .unset, .unset, .unset, .unset, .unset, .unset, .unset, .unset] [])) _
    rw [← h_bb]
    show Steps p.tables e below (s₁.setTop (mkF m 11 #[.val (.int p1), .val (.long q2), .second, .val (.int p3), .val (.long bb), .second, .unset, .unset, .unset, .unset, .unset, .unset, .unset, .unset, .unset, .unset, .unset] [])) _
    refine XS.iconst X0.here hx rfl (hb hby at_11) ?_
    show Steps p.tables e below (s₁.setTop (mkF m 12 #[.val (.int p1), .val (.long q2), .second, .val (.int p3), .val (.long bb), .second, .unset, .unset, .unset, .unset, .unset, .unset, .unset, .unset, .unset, .unset, .unset] [(.int (1 : Int32))])) _
    refine XS.iloadN X0.here hx rfl (hb hby at_12) rfl ?_
    show Steps p.tables e below (s₁.setTop (mkF m 13 #[.val (.int p1), .val (.long q2), .second, .val (.int p3), .val (.long bb), .second, .unset, .unset, .unset, .unset, .unset, .unset, .unset, .unset, .unset, .unset, .unset] [(.int p3), (.int (1 : Int32))])) _
    refine X0.ldcInt hx hown (mvT hZ (hw _ (List.mem_of_getElem? (i := 2) rfl))) (g := (mkF m 13 #[.val (.int p1), .val (.long q2), .second, .val (.int p3), .val (.long bb), .second, .unset, .unset, .unset, .unset, .unset, .unset, .unset, .unset, .unset, .unset, .unset] [(.int p3), (.int (1 : Int32))])) rfl (hb hby at_13) _ ?_
    show Steps p.tables e below (s₁.setTop (mkF m 15 #[.val (.int p1), .val (.long q2), .second, .val (.int p3), .val (.long bb), .second, .unset, .unset, .unset, .unset, .unset, .unset, .unset, .unset, .unset, .unset, .unset] [(.int (2147483647 : Int32)), (.int p3), (.int (1 : Int32))])) _
    refine XS.iand X0.here hx rfl (hb hby at_15) rfl ?_
    show Steps p.tables e below (s₁.setTop (mkF m 16 #[.val (.int p1), .val (.long q2), .second, .val (.int p3), .val (.long bb), .second, .unset, .unset, .unset, .unset, .unset, .unset, .unset, .unset, .unset, .unset, .unset] [(.int (p3 &&& (2147483647 : Int32))), (.int (1 : Int32))])) _
    refine X0.ldcInt hx hown (mvT hZ (hw _ (List.mem_of_getElem? (i := 3) rfl))) (g := (mkF m 16 #[.val (.int p1), .val (.long q2), .second, .val (.int p3), .val (.long bb), .second, .unset, .unset, .unset, .unset, .unset, .unset, .unset, .unset, .unset, .unset, .unset] [(.int (p3 &&& (2147483647 : Int32))), (.int (1 : Int32))])) rfl (hb hby at_16) _ ?_
    show Steps p.tables e below (s₁.setTop (mkF m 18 #[.val (.int p1), .val (.long q2), .second, .val (.int p3), .val (.long bb), .second, .unset, .unset, .unset, .unset, .unset, .unset, .unset, .unset, .unset, .unset, .unset] [(.int (2147483646 : Int32)), (.int (p3 &&& (2147483647 : Int32))), (.int (1 : Int32))])) _
    refine Jvm.RoadKit.iremM X0 hx rfl (hb hby at_18) rfl (by decide) ?_
    show Steps p.tables e below (s₁.setTop (mkF m 19 #[.val (.int p1), .val (.long q2), .second, .val (.int p3), .val (.long bb), .second, .unset, .unset, .unset, .unset, .unset, .unset, .unset, .unset, .unset, .unset, .unset] [(.int ((p3 &&& (2147483647 : Int32)) % (2147483646 : Int32))), (.int (1 : Int32))])) _
    refine XS.iadd X0.here hx rfl (hb hby at_19) rfl ?_
    show Steps p.tables e below (s₁.setTop (mkF m 20 #[.val (.int p1), .val (.long q2), .second, .val (.int p3), .val (.long bb), .second, .unset, .unset, .unset, .unset, .unset, .unset, .unset, .unset, .unset, .unset, .unset] [(.int ((1 : Int32) + ((p3 &&& (2147483647 : Int32)) % (2147483646 : Int32))))])) _
    refine XS.istore X0.here hx rfl (hb hby at_20) rfl (l' := #[.val (.int p1), .val (.long q2), .second, .val (.int p3), .val (.long bb), .second, .val (.int ((1 : Int32) + ((p3 &&& (2147483647 : Int32)) % (2147483646 : Int32)))), .unset, .unset, .unset, .unset, .unset, .unset, .unset, .unset, .unset, .unset]) rfl ?_
    show Steps p.tables e below (s₁.setTop (mkF m 22 #[.val (.int p1), .val (.long q2), .second, .val (.int p3), .val (.long bb), .second, .val (.int ((1 : Int32) + ((p3 &&& (2147483647 : Int32)) % (2147483646 : Int32)))), .unset, .unset, .unset, .unset, .unset, .unset, .unset, .unset, .unset, .unset] [])) _
    rw [← h_aa]
    show Steps p.tables e below (s₁.setTop (mkF m 22 #[.val (.int p1), .val (.long q2), .second, .val (.int p3), .val (.long bb), .second, .val (.int aa), .unset, .unset, .unset, .unset, .unset, .unset, .unset, .unset, .unset, .unset] [])) _
    refine st4 _ ?_
    show Steps p.tables e below (T4.setTop (mkF m 25 #[.val (.int p1), .val (.long q2), .second, .val (.int p3), .val (.long bb), .second, .val (.int aa), .unset, .unset, .unset, .unset, .unset, .unset, .unset, .unset, .unset, .unset] [(.ref b4)])) _
    refine XS.dup X4.here hx rfl (hb hby at_25) rfl rfl ?_
    show Steps p.tables e below (T4.setTop (mkF m 26 #[.val (.int p1), .val (.long q2), .second, .val (.int p3), .val (.long bb), .second, .val (.int aa), .unset, .unset, .unset, .unset, .unset, .unset, .unset, .unset, .unset, .unset] [(.ref b4), (.ref b4)])) _
    refine XS.iloadN X4.here hx rfl (hb hby at_26) rfl ?_
    show Steps p.tables e below (T4.setTop (mkF m 27 #[.val (.int p1), .val (.long q2), .second, .val (.int p3), .val (.long bb), .second, .val (.int aa), .unset, .unset, .unset, .unset, .unset, .unset, .unset, .unset, .unset, .unset] [(.int p1), (.ref b4), (.ref b4)])) _
    refine XS.lload X4.here hx rfl (hb hby at_27) rfl ?_
    show Steps p.tables e below (T4.setTop (mkF m 29 #[.val (.int p1), .val (.long q2), .second, .val (.int p3), .val (.long bb), .second, .val (.int aa), .unset, .unset, .unset, .unset, .unset, .unset, .unset, .unset, .unset, .unset] [(.long bb), (.int p1), (.ref b4), (.ref b4)])) _
    refine st5.trans ?_
    show Steps p.tables e below (T5.setTop (mkF m 32 #[.val (.int p1), .val (.long q2), .second, .val (.int p3), .val (.long bb), .second, .val (.int aa), .unset, .unset, .unset, .unset, .unset, .unset, .unset, .unset, .unset, .unset] [(.ref b4)])) _
    refine XS.astore X5.here hx rfl (hb hby at_32) rfl rfl (l' := #[.val (.int p1), .val (.long q2), .second, .val (.int p3), .val (.long bb), .second, .val (.int aa), .val (.ref b4), .unset, .unset, .unset, .unset, .unset, .unset, .unset, .unset, .unset]) rfl ?_
    show Steps p.tables e below (T5.setTop (mkF m 34 #[.val (.int p1), .val (.long q2), .second, .val (.int p3), .val (.long bb), .second, .val (.int aa), .val (.ref b4), .unset, .unset, .unset, .unset, .unset, .unset, .unset, .unset, .unset] [])) _
    refine XS.aload X5.here hx rfl (hb hby at_34) rfl rfl ?_
    show Steps p.tables e below (T5.setTop (mkF m 36 #[.val (.int p1), .val (.long q2), .second, .val (.int p3), .val (.long bb), .second, .val (.int aa), .val (.ref b4), .unset, .unset, .unset, .unset, .unset, .unset, .unset, .unset, .unset] [(.ref b4)])) _
    refine XS.iconst X5.here hx rfl (hb hby at_36) ?_
    show Steps p.tables e below (T5.setTop (mkF m 37 #[.val (.int p1), .val (.long q2), .second, .val (.int p3), .val (.long bb), .second, .val (.int aa), .val (.ref b4), .unset, .unset, .unset, .unset, .unset, .unset, .unset, .unset, .unset] [(.int (1 : Int32)), (.ref b4)])) _
    refine st6.trans ?_
    show Steps p.tables e below (T6.setTop (mkF m 40 #[.val (.int p1), .val (.long q2), .second, .val (.int p3), .val (.long bb), .second, .val (.int aa), .val (.ref b4), .unset, .unset, .unset, .unset, .unset, .unset, .unset, .unset, .unset] [(.long (own_minJ (bb <<< ((own_minI ((1 : Int32) - (1 : Int32)) (30 : Int32)) &&& 0x3f).toInt64) (300000 : Int64)))])) _
    refine XS.lstore X6.here hx rfl (hb hby at_40) rfl (l' := #[.val (.int p1), .val (.long q2), .second, .val (.int p3), .val (.long bb), .second, .val (.int aa), .val (.ref b4), .val (.long (own_minJ (bb <<< ((own_minI ((1 : Int32) - (1 : Int32)) (30 : Int32)) &&& 0x3f).toInt64) (300000 : Int64))), .second, .unset, .unset, .unset, .unset, .unset, .unset, .unset]) rfl ?_
    show Steps p.tables e below (T6.setTop (mkF m 42 #[.val (.int p1), .val (.long q2), .second, .val (.int p3), .val (.long bb), .second, .val (.int aa), .val (.ref b4), .val (.long (own_minJ (bb <<< ((own_minI ((1 : Int32) - (1 : Int32)) (30 : Int32)) &&& 0x3f).toInt64) (300000 : Int64))), .second, .unset, .unset, .unset, .unset, .unset, .unset, .unset] [])) _
    refine XS.aload X6.here hx rfl (hb hby at_42) rfl rfl ?_
    show Steps p.tables e below (T6.setTop (mkF m 44 #[.val (.int p1), .val (.long q2), .second, .val (.int p3), .val (.long bb), .second, .val (.int aa), .val (.ref b4), .val (.long (own_minJ (bb <<< ((own_minI ((1 : Int32) - (1 : Int32)) (30 : Int32)) &&& 0x3f).toInt64) (300000 : Int64))), .second, .unset, .unset, .unset, .unset, .unset, .unset, .unset] [(.ref b4)])) _
    refine XS.iload X6.here hx rfl (hb hby at_44) rfl ?_
    show Steps p.tables e below (T6.setTop (mkF m 46 #[.val (.int p1), .val (.long q2), .second, .val (.int p3), .val (.long bb), .second, .val (.int aa), .val (.ref b4), .val (.long (own_minJ (bb <<< ((own_minI ((1 : Int32) - (1 : Int32)) (30 : Int32)) &&& 0x3f).toInt64) (300000 : Int64))), .second, .unset, .unset, .unset, .unset, .unset, .unset, .unset] [(.int aa), (.ref b4)])) _
    refine st7.trans ?_
    show Steps p.tables e below (T7.setTop (mkF m 49 #[.val (.int p1), .val (.long q2), .second, .val (.int p3), .val (.long bb), .second, .val (.int aa), .val (.ref b4), .val (.long (own_minJ (bb <<< ((own_minI ((1 : Int32) - (1 : Int32)) (30 : Int32)) &&& 0x3f).toInt64) (300000 : Int64))), .second, .unset, .unset, .unset, .unset, .unset, .unset, .unset] [(.long (own_minJ (bb <<< ((own_minI (aa - (1 : Int32)) (30 : Int32)) &&& 0x3f).toInt64) (300000 : Int64)))])) _
    refine XS.lstore X7.here hx rfl (hb hby at_49) rfl (l' := #[.val (.int p1), .val (.long q2), .second, .val (.int p3), .val (.long bb), .second, .val (.int aa), .val (.ref b4), .val (.long (own_minJ (bb <<< ((own_minI ((1 : Int32) - (1 : Int32)) (30 : Int32)) &&& 0x3f).toInt64) (300000 : Int64))), .second, .val (.long (own_minJ (bb <<< ((own_minI (aa - (1 : Int32)) (30 : Int32)) &&& 0x3f).toInt64) (300000 : Int64))), .second, .unset, .unset, .unset, .unset, .unset]) rfl ?_
    show Steps p.tables e below (T7.setTop (mkF m 51 #[.val (.int p1), .val (.long q2), .second, .val (.int p3), .val (.long bb), .second, .val (.int aa), .val (.ref b4), .val (.long (own_minJ (bb <<< ((own_minI ((1 : Int32) - (1 : Int32)) (30 : Int32)) &&& 0x3f).toInt64) (300000 : Int64))), .second, .val (.long (own_minJ (bb <<< ((own_minI (aa - (1 : Int32)) (30 : Int32)) &&& 0x3f).toInt64) (300000 : Int64))), .second, .unset, .unset, .unset, .unset, .unset] [])) _
    refine XS.aload X7.here hx rfl (hb hby at_51) rfl rfl ?_
    show Steps p.tables e below (T7.setTop (mkF m 53 #[.val (.int p1), .val (.long q2), .second, .val (.int p3), .val (.long bb), .second, .val (.int aa), .val (.ref b4), .val (.long (own_minJ (bb <<< ((own_minI ((1 : Int32) - (1 : Int32)) (30 : Int32)) &&& 0x3f).toInt64) (300000 : Int64))), .second, .val (.long (own_minJ (bb <<< ((own_minI (aa - (1 : Int32)) (30 : Int32)) &&& 0x3f).toInt64) (300000 : Int64))), .second, .unset, .unset, .unset, .unset, .unset] [(.ref b4)])) _
    refine XS.iload X7.here hx rfl (hb hby at_53) rfl ?_
    show Steps p.tables e below (T7.setTop (mkF m 55 #[.val (.int p1), .val (.long q2), .second, .val (.int p3), .val (.long bb), .second, .val (.int aa), .val (.ref b4), .val (.long (own_minJ (bb <<< ((own_minI ((1 : Int32) - (1 : Int32)) (30 : Int32)) &&& 0x3f).toInt64) (300000 : Int64))), .second, .val (.long (own_minJ (bb <<< ((own_minI (aa - (1 : Int32)) (30 : Int32)) &&& 0x3f).toInt64) (300000 : Int64))), .second, .unset, .unset, .unset, .unset, .unset] [(.int aa), (.ref b4)])) _
    refine XS.iconst X7.here hx rfl (hb hby at_55) ?_
    show Steps p.tables e below (T7.setTop (mkF m 56 #[.val (.int p1), .val (.long q2), .second, .val (.int p3), .val (.long bb), .second, .val (.int aa), .val (.ref b4), .val (.long (own_minJ (bb <<< ((own_minI ((1 : Int32) - (1 : Int32)) (30 : Int32)) &&& 0x3f).toInt64) (300000 : Int64))), .second, .val (.long (own_minJ (bb <<< ((own_minI (aa - (1 : Int32)) (30 : Int32)) &&& 0x3f).toInt64) (300000 : Int64))), .second, .unset, .unset, .unset, .unset, .unset] [(.int (1 : Int32)), (.int aa), (.ref b4)])) _
    refine XS.iadd X7.here hx rfl (hb hby at_56) rfl ?_
    show Steps p.tables e below (T7.setTop (mkF m 57 #[.val (.int p1), .val (.long q2), .second, .val (.int p3), .val (.long bb), .second, .val (.int aa), .val (.ref b4), .val (.long (own_minJ (bb <<< ((own_minI ((1 : Int32) - (1 : Int32)) (30 : Int32)) &&& 0x3f).toInt64) (300000 : Int64))), .second, .val (.long (own_minJ (bb <<< ((own_minI (aa - (1 : Int32)) (30 : Int32)) &&& 0x3f).toInt64) (300000 : Int64))), .second, .unset, .unset, .unset, .unset, .unset] [(.int (aa + (1 : Int32))), (.ref b4)])) _
    refine st8.trans ?_
    show Steps p.tables e below (T8.setTop (mkF m 60 #[.val (.int p1), .val (.long q2), .second, .val (.int p3), .val (.long bb), .second, .val (.int aa), .val (.ref b4), .val (.long (own_minJ (bb <<< ((own_minI ((1 : Int32) - (1 : Int32)) (30 : Int32)) &&& 0x3f).toInt64) (300000 : Int64))), .second, .val (.long (own_minJ (bb <<< ((own_minI (aa - (1 : Int32)) (30 : Int32)) &&& 0x3f).toInt64) (300000 : Int64))), .second, .unset, .unset, .unset, .unset, .unset] [(.long (own_minJ (bb <<< ((own_minI ((aa + (1 : Int32)) - (1 : Int32)) (30 : Int32)) &&& 0x3f).toInt64) (300000 : Int64)))])) _
    refine XS.lstore X8.here hx rfl (hb hby at_60) rfl (l' := #[.val (.int p1), .val (.long q2), .second, .val (.int p3), .val (.long bb), .second, .val (.int aa), .val (.ref b4), .val (.long (own_minJ (bb <<< ((own_minI ((1 : Int32) - (1 : Int32)) (30 : Int32)) &&& 0x3f).toInt64) (300000 : Int64))), .second, .val (.long (own_minJ (bb <<< ((own_minI (aa - (1 : Int32)) (30 : Int32)) &&& 0x3f).toInt64) (300000 : Int64))), .second, .val (.long (own_minJ (bb <<< ((own_minI ((aa + (1 : Int32)) - (1 : Int32)) (30 : Int32)) &&& 0x3f).toInt64) (300000 : Int64))), .second, .unset, .unset, .unset]) rfl ?_
    show Steps p.tables e below (T8.setTop (mkF m 62 #[.val (.int p1), .val (.long q2), .second, .val (.int p3), .val (.long bb), .second, .val (.int aa), .val (.ref b4), .val (.long (own_minJ (bb <<< ((own_minI ((1 : Int32) - (1 : Int32)) (30 : Int32)) &&& 0x3f).toInt64) (300000 : Int64))), .second, .val (.long (own_minJ (bb <<< ((own_minI (aa - (1 : Int32)) (30 : Int32)) &&& 0x3f).toInt64) (300000 : Int64))), .second, .val (.long (own_minJ (bb <<< ((own_minI ((aa + (1 : Int32)) - (1 : Int32)) (30 : Int32)) &&& 0x3f).toInt64) (300000 : Int64))), .second, .unset, .unset, .unset] [])) _
    refine XS.lload X8.here hx rfl (hb hby at_62) rfl ?_
    show Steps p.tables e below (T8.setTop (mkF m 64 #[.val (.int p1), .val (.long q2), .second, .val (.int p3), .val (.long bb), .second, .val (.int aa), .val (.ref b4), .val (.long (own_minJ (bb <<< ((own_minI ((1 : Int32) - (1 : Int32)) (30 : Int32)) &&& 0x3f).toInt64) (300000 : Int64))), .second, .val (.long (own_minJ (bb <<< ((own_minI (aa - (1 : Int32)) (30 : Int32)) &&& 0x3f).toInt64) (300000 : Int64))), .second, .val (.long (own_minJ (bb <<< ((own_minI ((aa + (1 : Int32)) - (1 : Int32)) (30 : Int32)) &&& 0x3f).toInt64) (300000 : Int64))), .second, .unset, .unset, .unset] [(.long (own_minJ (bb <<< ((own_minI ((1 : Int32) - (1 : Int32)) (30 : Int32)) &&& 0x3f).toInt64) (300000 : Int64)))])) _
    refine XS.lload X8.here hx rfl (hb hby at_64) rfl ?_
    show Steps p.tables e below (T8.setTop (mkF m 66 #[.val (.int p1), .val (.long q2), .second, .val (.int p3), .val (.long bb), .second, .val (.int aa), .val (.ref b4), .val (.long (own_minJ (bb <<< ((own_minI ((1 : Int32) - (1 : Int32)) (30 : Int32)) &&& 0x3f).toInt64) (300000 : Int64))), .second, .val (.long (own_minJ (bb <<< ((own_minI (aa - (1 : Int32)) (30 : Int32)) &&& 0x3f).toInt64) (300000 : Int64))), .second, .val (.long (own_minJ (bb <<< ((own_minI ((aa + (1 : Int32)) - (1 : Int32)) (30 : Int32)) &&& 0x3f).toInt64) (300000 : Int64))), .second, .unset, .unset, .unset] [(.long bb), (.long (own_minJ (bb <<< ((own_minI ((1 : Int32) - (1 : Int32)) (30 : Int32)) &&& 0x3f).toInt64) (300000 : Int64)))])) _
    refine X8.ldc2Long hx hown (mvT hZ (hw _ (List.mem_of_getElem? (i := 35) rfl))) (g := (mkF m 66 #[.val (.int p1), .val (.long q2), .second, .val (.int p3), .val (.long bb), .second, .val (.int aa), .val (.ref b4), .val (.long (own_minJ (bb <<< ((own_minI ((1 : Int32) - (1 : Int32)) (30 : Int32)) &&& 0x3f).toInt64) (300000 : Int64))), .second, .val (.long (own_minJ (bb <<< ((own_minI (aa - (1 : Int32)) (30 : Int32)) &&& 0x3f).toInt64) (300000 : Int64))), .second, .val (.long (own_minJ (bb <<< ((own_minI ((aa + (1 : Int32)) - (1 : Int32)) (30 : Int32)) &&& 0x3f).toInt64) (300000 : Int64))), .second, .unset, .unset, .unset] [(.long bb), (.long (own_minJ (bb <<< ((own_minI ((1 : Int32) - (1 : Int32)) (30 : Int32)) &&& 0x3f).toInt64) (300000 : Int64)))])) rfl (hb hby at_66) _ ?_
    show Steps p.tables e below (T8.setTop (mkF m 69 #[.val (.int p1), .val (.long q2), .second, .val (.int p3), .val (.long bb), .second, .val (.int aa), .val (.ref b4), .val (.long (own_minJ (bb <<< ((own_minI ((1 : Int32) - (1 : Int32)) (30 : Int32)) &&& 0x3f).toInt64) (300000 : Int64))), .second, .val (.long (own_minJ (bb <<< ((own_minI (aa - (1 : Int32)) (30 : Int32)) &&& 0x3f).toInt64) (300000 : Int64))), .second, .val (.long (own_minJ (bb <<< ((own_minI ((aa + (1 : Int32)) - (1 : Int32)) (30 : Int32)) &&& 0x3f).toInt64) (300000 : Int64))), .second, .unset, .unset, .unset] [(.long (300000 : Int64)), (.long bb), (.long (own_minJ (bb <<< ((own_minI ((1 : Int32) - (1 : Int32)) (30 : Int32)) &&& 0x3f).toInt64) (300000 : Int64)))])) _
    refine st9 _ ?_
    show Steps p.tables e below (T9.setTop (mkF m 72 #[.val (.int p1), .val (.long q2), .second, .val (.int p3), .val (.long bb), .second, .val (.int aa), .val (.ref b4), .val (.long (own_minJ (bb <<< ((own_minI ((1 : Int32) - (1 : Int32)) (30 : Int32)) &&& 0x3f).toInt64) (300000 : Int64))), .second, .val (.long (own_minJ (bb <<< ((own_minI (aa - (1 : Int32)) (30 : Int32)) &&& 0x3f).toInt64) (300000 : Int64))), .second, .val (.long (own_minJ (bb <<< ((own_minI ((aa + (1 : Int32)) - (1 : Int32)) (30 : Int32)) &&& 0x3f).toInt64) (300000 : Int64))), .second, .unset, .unset, .unset] [(.long (own_minJ bb (300000 : Int64))), (.long (own_minJ (bb <<< ((own_minI ((1 : Int32) - (1 : Int32)) (30 : Int32)) &&& 0x3f).toInt64) (300000 : Int64)))])) _
    refine XS.lcmp X9.here hx rfl (hb hby at_72) rfl ?_
    show Steps p.tables e below (T9.setTop (mkF m 73 #[.val (.int p1), .val (.long q2), .second, .val (.int p3), .val (.long bb), .second, .val (.int aa), .val (.ref b4), .val (.long (own_minJ (bb <<< ((own_minI ((1 : Int32) - (1 : Int32)) (30 : Int32)) &&& 0x3f).toInt64) (300000 : Int64))), .second, .val (.long (own_minJ (bb <<< ((own_minI (aa - (1 : Int32)) (30 : Int32)) &&& 0x3f).toInt64) (300000 : Int64))), .second, .val (.long (own_minJ (bb <<< ((own_minI ((aa + (1 : Int32)) - (1 : Int32)) (30 : Int32)) &&& 0x3f).toInt64) (300000 : Int64))), .second, .unset, .unset, .unset] [(.int (lcmpW (own_minJ (bb <<< ((own_minI ((1 : Int32) - (1 : Int32)) (30 : Int32)) &&& 0x3f).toInt64) (300000 : Int64)) (own_minJ bb (300000 : Int64))))])) _
    refine XS.ifNo X9.here hx rfl (hb hby at_73) rfl ((if0 _ _).trans (teq ((own_base bb hb0) : (lcmpW (own_minJ (bb <<< ((own_minI ((1 : Int32) - (1 : Int32)) (30 : Int32)) &&& 0x3f).toInt64) (300000 : Int64)) (own_minJ bb (300000 : Int64))) = (0 : Int32))).2) ?_
    show Steps p.tables e below (T9.setTop (mkF m 76 #[.val (.int p1), .val (.long q2), .second, .val (.int p3), .val (.long bb), .second, .val (.int aa), .val (.ref b4), .val (.long (own_minJ (bb <<< ((own_minI ((1 : Int32) - (1 : Int32)) (30 : Int32)) &&& 0x3f).toInt64) (300000 : Int64))), .second, .val (.long (own_minJ (bb <<< ((own_minI (aa - (1 : Int32)) (30 : Int32)) &&& 0x3f).toInt64) (300000 : Int64))), .second, .val (.long (own_minJ (bb <<< ((own_minI ((aa + (1 : Int32)) - (1 : Int32)) (30 : Int32)) &&& 0x3f).toInt64) (300000 : Int64))), .second, .unset, .unset, .unset] [])) _
    refine XS.iconst X9.here hx rfl (hb hby at_76) ?_
    show Steps p.tables e below (T9.setTop (mkF m 77 #[.val (.int p1), .val (.long q2), .second, .val (.int p3), .val (.long bb), .second, .val (.int aa), .val (.ref b4), .val (.long (own_minJ (bb <<< ((own_minI ((1 : Int32) - (1 : Int32)) (30 : Int32)) &&& 0x3f).toInt64) (300000 : Int64))), .second, .val (.long (own_minJ (bb <<< ((own_minI (aa - (1 : Int32)) (30 : Int32)) &&& 0x3f).toInt64) (300000 : Int64))), .second, .val (.long (own_minJ (bb <<< ((own_minI ((aa + (1 : Int32)) - (1 : Int32)) (30 : Int32)) &&& 0x3f).toInt64) (300000 : Int64))), .second, .unset, .unset, .unset] [(.int (1 : Int32))])) _
    refine XS.goto X9.here hx rfl (pc0 := 77) (pc' := 81) rfl (hb hby at_77) (by decide) (by decide) ?_
    show Steps p.tables e below (T9.setTop (mkF m 81 #[.val (.int p1), .val (.long q2), .second, .val (.int p3), .val (.long bb), .second, .val (.int aa), .val (.ref b4), .val (.long (own_minJ (bb <<< ((own_minI ((1 : Int32) - (1 : Int32)) (30 : Int32)) &&& 0x3f).toInt64) (300000 : Int64))), .second, .val (.long (own_minJ (bb <<< ((own_minI (aa - (1 : Int32)) (30 : Int32)) &&& 0x3f).toInt64) (300000 : Int64))), .second, .val (.long (own_minJ (bb <<< ((own_minI ((aa + (1 : Int32)) - (1 : Int32)) (30 : Int32)) &&& 0x3f).toInt64) (300000 : Int64))), .second, .unset, .unset, .unset] [(.int (1 : Int32))])) _
    refine XS.istore X9.here hx rfl (hb hby at_81) rfl (l' := #[.val (.int p1), .val (.long q2), .second, .val (.int p3), .val (.long bb), .second, .val (.int aa), .val (.ref b4), .val (.long (own_minJ (bb <<< ((own_minI ((1 : Int32) - (1 : Int32)) (30 : Int32)) &&& 0x3f).toInt64) (300000 : Int64))), .second, .val (.long (own_minJ (bb <<< ((own_minI (aa - (1 : Int32)) (30 : Int32)) &&& 0x3f).toInt64) (300000 : Int64))), .second, .val (.long (own_minJ (bb <<< ((own_minI ((aa + (1 : Int32)) - (1 : Int32)) (30 : Int32)) &&& 0x3f).toInt64) (300000 : Int64))), .second, .val (.int (1 : Int32)), .unset, .unset]) rfl ?_
    show Steps p.tables e below (T9.setTop (mkF m 83 #[.val (.int p1), .val (.long q2), .second, .val (.int p3), .val (.long bb), .second, .val (.int aa), .val (.ref b4), .val (.long (own_minJ (bb <<< ((own_minI ((1 : Int32) - (1 : Int32)) (30 : Int32)) &&& 0x3f).toInt64) (300000 : Int64))), .second, .val (.long (own_minJ (bb <<< ((own_minI (aa - (1 : Int32)) (30 : Int32)) &&& 0x3f).toInt64) (300000 : Int64))), .second, .val (.long (own_minJ (bb <<< ((own_minI ((aa + (1 : Int32)) - (1 : Int32)) (30 : Int32)) &&& 0x3f).toInt64) (300000 : Int64))), .second, .val (.int (1 : Int32)), .unset, .unset] [])) _
    refine XS.lload X9.here hx rfl (hb hby at_83) rfl ?_
    show Steps p.tables e below (T9.setTop (mkF m 85 #[.val (.int p1), .val (.long q2), .second, .val (.int p3), .val (.long bb), .second, .val (.int aa), .val (.ref b4), .val (.long (own_minJ (bb <<< ((own_minI ((1 : Int32) - (1 : Int32)) (30 : Int32)) &&& 0x3f).toInt64) (300000 : Int64))), .second, .val (.long (own_minJ (bb <<< ((own_minI (aa - (1 : Int32)) (30 : Int32)) &&& 0x3f).toInt64) (300000 : Int64))), .second, .val (.long (own_minJ (bb <<< ((own_minI ((aa + (1 : Int32)) - (1 : Int32)) (30 : Int32)) &&& 0x3f).toInt64) (300000 : Int64))), .second, .val (.int (1 : Int32)), .unset, .unset] [(.long (own_minJ (bb <<< ((own_minI ((aa + (1 : Int32)) - (1 : Int32)) (30 : Int32)) &&& 0x3f).toInt64) (300000 : Int64)))])) _
    refine X9.ldc2Long hx hown (mvT hZ (hw _ (List.mem_of_getElem? (i := 37) rfl))) (g := (mkF m 85 #[.val (.int p1), .val (.long q2), .second, .val (.int p3), .val (.long bb), .second, .val (.int aa), .val (.ref b4), .val (.long (own_minJ (bb <<< ((own_minI ((1 : Int32) - (1 : Int32)) (30 : Int32)) &&& 0x3f).toInt64) (300000 : Int64))), .second, .val (.long (own_minJ (bb <<< ((own_minI (aa - (1 : Int32)) (30 : Int32)) &&& 0x3f).toInt64) (300000 : Int64))), .second, .val (.long (own_minJ (bb <<< ((own_minI ((aa + (1 : Int32)) - (1 : Int32)) (30 : Int32)) &&& 0x3f).toInt64) (300000 : Int64))), .second, .val (.int (1 : Int32)), .unset, .unset] [(.long (own_minJ (bb <<< ((own_minI ((aa + (1 : Int32)) - (1 : Int32)) (30 : Int32)) &&& 0x3f).toInt64) (300000 : Int64)))])) rfl (hb hby at_85) _ ?_
    show Steps p.tables e below (T9.setTop (mkF m 88 #[.val (.int p1), .val (.long q2), .second, .val (.int p3), .val (.long bb), .second, .val (.int aa), .val (.ref b4), .val (.long (own_minJ (bb <<< ((own_minI ((1 : Int32) - (1 : Int32)) (30 : Int32)) &&& 0x3f).toInt64) (300000 : Int64))), .second, .val (.long (own_minJ (bb <<< ((own_minI (aa - (1 : Int32)) (30 : Int32)) &&& 0x3f).toInt64) (300000 : Int64))), .second, .val (.long (own_minJ (bb <<< ((own_minI ((aa + (1 : Int32)) - (1 : Int32)) (30 : Int32)) &&& 0x3f).toInt64) (300000 : Int64))), .second, .val (.int (1 : Int32)), .unset, .unset] [(.long (2 : Int64)), (.long (own_minJ (bb <<< ((own_minI ((aa + (1 : Int32)) - (1 : Int32)) (30 : Int32)) &&& 0x3f).toInt64) (300000 : Int64)))])) _
    refine XS.lload X9.here hx rfl (hb hby at_88) rfl ?_
    show Steps p.tables e below (T9.setTop (mkF m 90 #[.val (.int p1), .val (.long q2), .second, .val (.int p3), .val (.long bb), .second, .val (.int aa), .val (.ref b4), .val (.long (own_minJ (bb <<< ((own_minI ((1 : Int32) - (1 : Int32)) (30 : Int32)) &&& 0x3f).toInt64) (300000 : Int64))), .second, .val (.long (own_minJ (bb <<< ((own_minI (aa - (1 : Int32)) (30 : Int32)) &&& 0x3f).toInt64) (300000 : Int64))), .second, .val (.long (own_minJ (bb <<< ((own_minI ((aa + (1 : Int32)) - (1 : Int32)) (30 : Int32)) &&& 0x3f).toInt64) (300000 : Int64))), .second, .val (.int (1 : Int32)), .unset, .unset] [(.long (own_minJ (bb <<< ((own_minI (aa - (1 : Int32)) (30 : Int32)) &&& 0x3f).toInt64) (300000 : Int64))), (.long (2 : Int64)), (.long (own_minJ (bb <<< ((own_minI ((aa + (1 : Int32)) - (1 : Int32)) (30 : Int32)) &&& 0x3f).toInt64) (300000 : Int64)))])) _
    refine XS.lmul X9.here hx rfl (hb hby at_90) rfl ?_
    show Steps p.tables e below (T9.setTop (mkF m 91 #[.val (.int p1), .val (.long q2), .second, .val (.int p3), .val (.long bb), .second, .val (.int aa), .val (.ref b4), .val (.long (own_minJ (bb <<< ((own_minI ((1 : Int32) - (1 : Int32)) (30 : Int32)) &&& 0x3f).toInt64) (300000 : Int64))), .second, .val (.long (own_minJ (bb <<< ((own_minI (aa - (1 : Int32)) (30 : Int32)) &&& 0x3f).toInt64) (300000 : Int64))), .second, .val (.long (own_minJ (bb <<< ((own_minI ((aa + (1 : Int32)) - (1 : Int32)) (30 : Int32)) &&& 0x3f).toInt64) (300000 : Int64))), .second, .val (.int (1 : Int32)), .unset, .unset] [(.long ((2 : Int64) * (own_minJ (bb <<< ((own_minI (aa - (1 : Int32)) (30 : Int32)) &&& 0x3f).toInt64) (300000 : Int64)))), (.long (own_minJ (bb <<< ((own_minI ((aa + (1 : Int32)) - (1 : Int32)) (30 : Int32)) &&& 0x3f).toInt64) (300000 : Int64)))])) _
    refine X9.ldc2Long hx hown (mvT hZ (hw _ (List.mem_of_getElem? (i := 35) rfl))) (g := (mkF m 91 #[.val (.int p1), .val (.long q2), .second, .val (.int p3), .val (.long bb), .second, .val (.int aa), .val (.ref b4), .val (.long (own_minJ (bb <<< ((own_minI ((1 : Int32) - (1 : Int32)) (30 : Int32)) &&& 0x3f).toInt64) (300000 : Int64))), .second, .val (.long (own_minJ (bb <<< ((own_minI (aa - (1 : Int32)) (30 : Int32)) &&& 0x3f).toInt64) (300000 : Int64))), .second, .val (.long (own_minJ (bb <<< ((own_minI ((aa + (1 : Int32)) - (1 : Int32)) (30 : Int32)) &&& 0x3f).toInt64) (300000 : Int64))), .second, .val (.int (1 : Int32)), .unset, .unset] [(.long ((2 : Int64) * (own_minJ (bb <<< ((own_minI (aa - (1 : Int32)) (30 : Int32)) &&& 0x3f).toInt64) (300000 : Int64)))), (.long (own_minJ (bb <<< ((own_minI ((aa + (1 : Int32)) - (1 : Int32)) (30 : Int32)) &&& 0x3f).toInt64) (300000 : Int64)))])) rfl (hb hby at_91) _ ?_
    show Steps p.tables e below (T9.setTop (mkF m 94 #[.val (.int p1), .val (.long q2), .second, .val (.int p3), .val (.long bb), .second, .val (.int aa), .val (.ref b4), .val (.long (own_minJ (bb <<< ((own_minI ((1 : Int32) - (1 : Int32)) (30 : Int32)) &&& 0x3f).toInt64) (300000 : Int64))), .second, .val (.long (own_minJ (bb <<< ((own_minI (aa - (1 : Int32)) (30 : Int32)) &&& 0x3f).toInt64) (300000 : Int64))), .second, .val (.long (own_minJ (bb <<< ((own_minI ((aa + (1 : Int32)) - (1 : Int32)) (30 : Int32)) &&& 0x3f).toInt64) (300000 : Int64))), .second, .val (.int (1 : Int32)), .unset, .unset] [(.long (300000 : Int64)), (.long ((2 : Int64) * (own_minJ (bb <<< ((own_minI (aa - (1 : Int32)) (30 : Int32)) &&& 0x3f).toInt64) (300000 : Int64)))), (.long (own_minJ (bb <<< ((own_minI ((aa + (1 : Int32)) - (1 : Int32)) (30 : Int32)) &&& 0x3f).toInt64) (300000 : Int64)))])) _
    refine st10 _ ?_
    show Steps p.tables e below (T10.setTop (mkF m 97 #[.val (.int p1), .val (.long q2), .second, .val (.int p3), .val (.long bb), .second, .val (.int aa), .val (.ref b4), .val (.long (own_minJ (bb <<< ((own_minI ((1 : Int32) - (1 : Int32)) (30 : Int32)) &&& 0x3f).toInt64) (300000 : Int64))), .second, .val (.long (own_minJ (bb <<< ((own_minI (aa - (1 : Int32)) (30 : Int32)) &&& 0x3f).toInt64) (300000 : Int64))), .second, .val (.long (own_minJ (bb <<< ((own_minI ((aa + (1 : Int32)) - (1 : Int32)) (30 : Int32)) &&& 0x3f).toInt64) (300000 : Int64))), .second, .val (.int (1 : Int32)), .unset, .unset] [(.long (own_minJ ((2 : Int64) * (own_minJ (bb <<< ((own_minI (aa - (1 : Int32)) (30 : Int32)) &&& 0x3f).toInt64) (300000 : Int64))) (300000 : Int64))), (.long (own_minJ (bb <<< ((own_minI ((aa + (1 : Int32)) - (1 : Int32)) (30 : Int32)) &&& 0x3f).toInt64) (300000 : Int64)))])) _
    refine XS.lcmp X10.here hx rfl (hb hby at_97) rfl ?_
    show Steps p.tables e below (T10.setTop (mkF m 98 #[.val (.int p1), .val (.long q2), .second, .val (.int p3), .val (.long bb), .second, .val (.int aa), .val (.ref b4), .val (.long (own_minJ (bb <<< ((own_minI ((1 : Int32) - (1 : Int32)) (30 : Int32)) &&& 0x3f).toInt64) (300000 : Int64))), .second, .val (.long (own_minJ (bb <<< ((own_minI (aa - (1 : Int32)) (30 : Int32)) &&& 0x3f).toInt64) (300000 : Int64))), .second, .val (.long (own_minJ (bb <<< ((own_minI ((aa + (1 : Int32)) - (1 : Int32)) (30 : Int32)) &&& 0x3f).toInt64) (300000 : Int64))), .second, .val (.int (1 : Int32)), .unset, .unset] [(.int (lcmpW (own_minJ (bb <<< ((own_minI ((aa + (1 : Int32)) - (1 : Int32)) (30 : Int32)) &&& 0x3f).toInt64) (300000 : Int64)) (own_minJ ((2 : Int64) * (own_minJ (bb <<< ((own_minI (aa - (1 : Int32)) (30 : Int32)) &&& 0x3f).toInt64) (300000 : Int64))) (300000 : Int64))))])) _
    refine XS.ifNo X10.here hx rfl (hb hby at_98) rfl ((if0 _ _).trans (teq ((own_step bb aa hb0 ha0) : (lcmpW (own_minJ (bb <<< ((own_minI ((aa + (1 : Int32)) - (1 : Int32)) (30 : Int32)) &&& 0x3f).toInt64) (300000 : Int64)) (own_minJ ((2 : Int64) * (own_minJ (bb <<< ((own_minI (aa - (1 : Int32)) (30 : Int32)) &&& 0x3f).toInt64) (300000 : Int64))) (300000 : Int64))) = (0 : Int32))).2) ?_
    show Steps p.tables e below (T10.setTop (mkF m 101 #[.val (.int p1), .val (.long q2), .second, .val (.int p3), .val (.long bb), .second, .val (.int aa), .val (.ref b4), .val (.long (own_minJ (bb <<< ((own_minI ((1 : Int32) - (1 : Int32)) (30 : Int32)) &&& 0x3f).toInt64) (300000 : Int64))), .second, .val (.long (own_minJ (bb <<< ((own_minI (aa - (1 : Int32)) (30 : Int32)) &&& 0x3f).toInt64) (300000 : Int64))), .second, .val (.long (own_minJ (bb <<< ((own_minI ((aa + (1 : Int32)) - (1 : Int32)) (30 : Int32)) &&& 0x3f).toInt64) (300000 : Int64))), .second, .val (.int (1 : Int32)), .unset, .unset] [])) _
    refine XS.iconst X10.here hx rfl (hb hby at_101) ?_
    show Steps p.tables e below (T10.setTop (mkF m 102 #[.val (.int p1), .val (.long q2), .second, .val (.int p3), .val (.long bb), .second, .val (.int aa), .val (.ref b4), .val (.long (own_minJ (bb <<< ((own_minI ((1 : Int32) - (1 : Int32)) (30 : Int32)) &&& 0x3f).toInt64) (300000 : Int64))), .second, .val (.long (own_minJ (bb <<< ((own_minI (aa - (1 : Int32)) (30 : Int32)) &&& 0x3f).toInt64) (300000 : Int64))), .second, .val (.long (own_minJ (bb <<< ((own_minI ((aa + (1 : Int32)) - (1 : Int32)) (30 : Int32)) &&& 0x3f).toInt64) (300000 : Int64))), .second, .val (.int (1 : Int32)), .unset, .unset] [(.int (1 : Int32))])) _
    refine XS.goto X10.here hx rfl (pc0 := 102) (pc' := 106) rfl (hb hby at_102) (by decide) (by decide) ?_
    show Steps p.tables e below (T10.setTop (mkF m 106 #[.val (.int p1), .val (.long q2), .second, .val (.int p3), .val (.long bb), .second, .val (.int aa), .val (.ref b4), .val (.long (own_minJ (bb <<< ((own_minI ((1 : Int32) - (1 : Int32)) (30 : Int32)) &&& 0x3f).toInt64) (300000 : Int64))), .second, .val (.long (own_minJ (bb <<< ((own_minI (aa - (1 : Int32)) (30 : Int32)) &&& 0x3f).toInt64) (300000 : Int64))), .second, .val (.long (own_minJ (bb <<< ((own_minI ((aa + (1 : Int32)) - (1 : Int32)) (30 : Int32)) &&& 0x3f).toInt64) (300000 : Int64))), .second, .val (.int (1 : Int32)), .unset, .unset] [(.int (1 : Int32))])) _
    refine XS.istore X10.here hx rfl (hb hby at_106) rfl (l' := #[.val (.int p1), .val (.long q2), .second, .val (.int p3), .val (.long bb), .second, .val (.int aa), .val (.ref b4), .val (.long (own_minJ (bb <<< ((own_minI ((1 : Int32) - (1 : Int32)) (30 : Int32)) &&& 0x3f).toInt64) (300000 : Int64))), .second, .val (.long (own_minJ (bb <<< ((own_minI (aa - (1 : Int32)) (30 : Int32)) &&& 0x3f).toInt64) (300000 : Int64))), .second, .val (.long (own_minJ (bb <<< ((own_minI ((aa + (1 : Int32)) - (1 : Int32)) (30 : Int32)) &&& 0x3f).toInt64) (300000 : Int64))), .second, .val (.int (1 : Int32)), .val (.int (1 : Int32)), .unset]) rfl ?_
    show Steps p.tables e below (T10.setTop (mkF m 108 #[.val (.int p1), .val (.long q2), .second, .val (.int p3), .val (.long bb), .second, .val (.int aa), .val (.ref b4), .val (.long (own_minJ (bb <<< ((own_minI ((1 : Int32) - (1 : Int32)) (30 : Int32)) &&& 0x3f).toInt64) (300000 : Int64))), .second, .val (.long (own_minJ (bb <<< ((own_minI (aa - (1 : Int32)) (30 : Int32)) &&& 0x3f).toInt64) (300000 : Int64))), .second, .val (.long (own_minJ (bb <<< ((own_minI ((aa + (1 : Int32)) - (1 : Int32)) (30 : Int32)) &&& 0x3f).toInt64) (300000 : Int64))), .second, .val (.int (1 : Int32)), .val (.int (1 : Int32)), .unset] [])) _
    refine XS.lload X10.here hx rfl (hb hby at_108) rfl ?_
    show Steps p.tables e below (T10.setTop (mkF m 110 #[.val (.int p1), .val (.long q2), .second, .val (.int p3), .val (.long bb), .second, .val (.int aa), .val (.ref b4), .val (.long (own_minJ (bb <<< ((own_minI ((1 : Int32) - (1 : Int32)) (30 : Int32)) &&& 0x3f).toInt64) (300000 : Int64))), .second, .val (.long (own_minJ (bb <<< ((own_minI (aa - (1 : Int32)) (30 : Int32)) &&& 0x3f).toInt64) (300000 : Int64))), .second, .val (.long (own_minJ (bb <<< ((own_minI ((aa + (1 : Int32)) - (1 : Int32)) (30 : Int32)) &&& 0x3f).toInt64) (300000 : Int64))), .second, .val (.int (1 : Int32)), .val (.int (1 : Int32)), .unset] [(.long (own_minJ (bb <<< ((own_minI (aa - (1 : Int32)) (30 : Int32)) &&& 0x3f).toInt64) (300000 : Int64)))])) _
    refine XS.lconst X10.here hx rfl (hb hby at_110) ?_
    show Steps p.tables e below (T10.setTop (mkF m 111 #[.val (.int p1), .val (.long q2), .second, .val (.int p3), .val (.long bb), .second, .val (.int aa), .val (.ref b4), .val (.long (own_minJ (bb <<< ((own_minI ((1 : Int32) - (1 : Int32)) (30 : Int32)) &&& 0x3f).toInt64) (300000 : Int64))), .second, .val (.long (own_minJ (bb <<< ((own_minI (aa - (1 : Int32)) (30 : Int32)) &&& 0x3f).toInt64) (300000 : Int64))), .second, .val (.long (own_minJ (bb <<< ((own_minI ((aa + (1 : Int32)) - (1 : Int32)) (30 : Int32)) &&& 0x3f).toInt64) (300000 : Int64))), .second, .val (.int (1 : Int32)), .val (.int (1 : Int32)), .unset] [(.long (0 : Int64)), (.long (own_minJ (bb <<< ((own_minI (aa - (1 : Int32)) (30 : Int32)) &&& 0x3f).toInt64) (300000 : Int64)))])) _
    refine XS.lcmp X10.here hx rfl (hb hby at_111) rfl ?_
    show Steps p.tables e below (T10.setTop (mkF m 112 #[.val (.int p1), .val (.long q2), .second, .val (.int p3), .val (.long bb), .second, .val (.int aa), .val (.ref b4), .val (.long (own_minJ (bb <<< ((own_minI ((1 : Int32) - (1 : Int32)) (30 : Int32)) &&& 0x3f).toInt64) (300000 : Int64))), .second, .val (.long (own_minJ (bb <<< ((own_minI (aa - (1 : Int32)) (30 : Int32)) &&& 0x3f).toInt64) (300000 : Int64))), .second, .val (.long (own_minJ (bb <<< ((own_minI ((aa + (1 : Int32)) - (1 : Int32)) (30 : Int32)) &&& 0x3f).toInt64) (300000 : Int64))), .second, .val (.int (1 : Int32)), .val (.int (1 : Int32)), .unset] [(.int (lcmpW (own_minJ (bb <<< ((own_minI (aa - (1 : Int32)) (30 : Int32)) &&& 0x3f).toInt64) (300000 : Int64)) (0 : Int64)))])) _
    refine XS.ifNo X10.here hx rfl (hb hby at_112) rfl ((if0 _ _).trans (flt ((own_lo bb aa hb0 ha0) : ¬ ((lcmpW (own_minJ (bb <<< ((own_minI (aa - (1 : Int32)) (30 : Int32)) &&& 0x3f).toInt64) (300000 : Int64)) (0 : Int64)) < (0 : Int32)))).1) ?_
    show Steps p.tables e below (T10.setTop (mkF m 115 #[.val (.int p1), .val (.long q2), .second, .val (.int p3), .val (.long bb), .second, .val (.int aa), .val (.ref b4), .val (.long (own_minJ (bb <<< ((own_minI ((1 : Int32) - (1 : Int32)) (30 : Int32)) &&& 0x3f).toInt64) (300000 : Int64))), .second, .val (.long (own_minJ (bb <<< ((own_minI (aa - (1 : Int32)) (30 : Int32)) &&& 0x3f).toInt64) (300000 : Int64))), .second, .val (.long (own_minJ (bb <<< ((own_minI ((aa + (1 : Int32)) - (1 : Int32)) (30 : Int32)) &&& 0x3f).toInt64) (300000 : Int64))), .second, .val (.int (1 : Int32)), .val (.int (1 : Int32)), .unset] [])) _
    refine XS.lload X10.here hx rfl (hb hby at_115) rfl ?_
    show Steps p.tables e below (T10.setTop (mkF m 117 #[.val (.int p1), .val (.long q2), .second, .val (.int p3), .val (.long bb), .second, .val (.int aa), .val (.ref b4), .val (.long (own_minJ (bb <<< ((own_minI ((1 : Int32) - (1 : Int32)) (30 : Int32)) &&& 0x3f).toInt64) (300000 : Int64))), .second, .val (.long (own_minJ (bb <<< ((own_minI (aa - (1 : Int32)) (30 : Int32)) &&& 0x3f).toInt64) (300000 : Int64))), .second, .val (.long (own_minJ (bb <<< ((own_minI ((aa + (1 : Int32)) - (1 : Int32)) (30 : Int32)) &&& 0x3f).toInt64) (300000 : Int64))), .second, .val (.int (1 : Int32)), .val (.int (1 : Int32)), .unset] [(.long (own_minJ (bb <<< ((own_minI (aa - (1 : Int32)) (30 : Int32)) &&& 0x3f).toInt64) (300000 : Int64)))])) _
    refine X10.ldc2Long hx hown (mvT hZ (hw _ (List.mem_of_getElem? (i := 35) rfl))) (g := (mkF m 117 #[.val (.int p1), .val (.long q2), .second, .val (.int p3), .val (.long bb), .second, .val (.int aa), .val (.ref b4), .val (.long (own_minJ (bb <<< ((own_minI ((1 : Int32) - (1 : Int32)) (30 : Int32)) &&& 0x3f).toInt64) (300000 : Int64))), .second, .val (.long (own_minJ (bb <<< ((own_minI (aa - (1 : Int32)) (30 : Int32)) &&& 0x3f).toInt64) (300000 : Int64))), .second, .val (.long (own_minJ (bb <<< ((own_minI ((aa + (1 : Int32)) - (1 : Int32)) (30 : Int32)) &&& 0x3f).toInt64) (300000 : Int64))), .second, .val (.int (1 : Int32)), .val (.int (1 : Int32)), .unset] [(.long (own_minJ (bb <<< ((own_minI (aa - (1 : Int32)) (30 : Int32)) &&& 0x3f).toInt64) (300000 : Int64)))])) rfl (hb hby at_117) _ ?_
    show Steps p.tables e below (T10.setTop (mkF m 120 #[.val (.int p1), .val (.long q2), .second, .val (.int p3), .val (.long bb), .second, .val (.int aa), .val (.ref b4), .val (.long (own_minJ (bb <<< ((own_minI ((1 : Int32) - (1 : Int32)) (30 : Int32)) &&& 0x3f).toInt64) (300000 : Int64))), .second, .val (.long (own_minJ (bb <<< ((own_minI (aa - (1 : Int32)) (30 : Int32)) &&& 0x3f).toInt64) (300000 : Int64))), .second, .val (.long (own_minJ (bb <<< ((own_minI ((aa + (1 : Int32)) - (1 : Int32)) (30 : Int32)) &&& 0x3f).toInt64) (300000 : Int64))), .second, .val (.int (1 : Int32)), .val (.int (1 : Int32)), .unset] [(.long (300000 : Int64)), (.long (own_minJ (bb <<< ((own_minI (aa - (1 : Int32)) (30 : Int32)) &&& 0x3f).toInt64) (300000 : Int64)))])) _
    refine XS.lcmp X10.here hx rfl (hb hby at_120) rfl ?_
    show Steps p.tables e below (T10.setTop (mkF m 121 #[.val (.int p1), .val (.long q2), .second, .val (.int p3), .val (.long bb), .second, .val (.int aa), .val (.ref b4), .val (.long (own_minJ (bb <<< ((own_minI ((1 : Int32) - (1 : Int32)) (30 : Int32)) &&& 0x3f).toInt64) (300000 : Int64))), .second, .val (.long (own_minJ (bb <<< ((own_minI (aa - (1 : Int32)) (30 : Int32)) &&& 0x3f).toInt64) (300000 : Int64))), .second, .val (.long (own_minJ (bb <<< ((own_minI ((aa + (1 : Int32)) - (1 : Int32)) (30 : Int32)) &&& 0x3f).toInt64) (300000 : Int64))), .second, .val (.int (1 : Int32)), .val (.int (1 : Int32)), .unset] [(.int (lcmpW (own_minJ (bb <<< ((own_minI (aa - (1 : Int32)) (30 : Int32)) &&& 0x3f).toInt64) (300000 : Int64)) (300000 : Int64)))])) _
    refine XS.ifNo X10.here hx rfl (hb hby at_121) rfl ((if0 _ _).trans (flt ((own_hi bb aa hb0 ha0) : ¬ ((0 : Int32) < (lcmpW (own_minJ (bb <<< ((own_minI (aa - (1 : Int32)) (30 : Int32)) &&& 0x3f).toInt64) (300000 : Int64)) (300000 : Int64))))).2.2.1) ?_
    show Steps p.tables e below (T10.setTop (mkF m 124 #[.val (.int p1), .val (.long q2), .second, .val (.int p3), .val (.long bb), .second, .val (.int aa), .val (.ref b4), .val (.long (own_minJ (bb <<< ((own_minI ((1 : Int32) - (1 : Int32)) (30 : Int32)) &&& 0x3f).toInt64) (300000 : Int64))), .second, .val (.long (own_minJ (bb <<< ((own_minI (aa - (1 : Int32)) (30 : Int32)) &&& 0x3f).toInt64) (300000 : Int64))), .second, .val (.long (own_minJ (bb <<< ((own_minI ((aa + (1 : Int32)) - (1 : Int32)) (30 : Int32)) &&& 0x3f).toInt64) (300000 : Int64))), .second, .val (.int (1 : Int32)), .val (.int (1 : Int32)), .unset] [])) _
    refine XS.iconst X10.here hx rfl (hb hby at_124) ?_
    show Steps p.tables e below (T10.setTop (mkF m 125 #[.val (.int p1), .val (.long q2), .second, .val (.int p3), .val (.long bb), .second, .val (.int aa), .val (.ref b4), .val (.long (own_minJ (bb <<< ((own_minI ((1 : Int32) - (1 : Int32)) (30 : Int32)) &&& 0x3f).toInt64) (300000 : Int64))), .second, .val (.long (own_minJ (bb <<< ((own_minI (aa - (1 : Int32)) (30 : Int32)) &&& 0x3f).toInt64) (300000 : Int64))), .second, .val (.long (own_minJ (bb <<< ((own_minI ((aa + (1 : Int32)) - (1 : Int32)) (30 : Int32)) &&& 0x3f).toInt64) (300000 : Int64))), .second, .val (.int (1 : Int32)), .val (.int (1 : Int32)), .unset] [(.int (1 : Int32))])) _
    refine XS.goto X10.here hx rfl (pc0 := 125) (pc' := 129) rfl (hb hby at_125) (by decide) (by decide) ?_
    show Steps p.tables e below (T10.setTop (mkF m 129 #[.val (.int p1), .val (.long q2), .second, .val (.int p3), .val (.long bb), .second, .val (.int aa), .val (.ref b4), .val (.long (own_minJ (bb <<< ((own_minI ((1 : Int32) - (1 : Int32)) (30 : Int32)) &&& 0x3f).toInt64) (300000 : Int64))), .second, .val (.long (own_minJ (bb <<< ((own_minI (aa - (1 : Int32)) (30 : Int32)) &&& 0x3f).toInt64) (300000 : Int64))), .second, .val (.long (own_minJ (bb <<< ((own_minI ((aa + (1 : Int32)) - (1 : Int32)) (30 : Int32)) &&& 0x3f).toInt64) (300000 : Int64))), .second, .val (.int (1 : Int32)), .val (.int (1 : Int32)), .unset] [(.int (1 : Int32))])) _
    refine XS.istore X10.here hx rfl (hb hby at_129) rfl (l' := #[.val (.int p1), .val (.long q2), .second, .val (.int p3), .val (.long bb), .second, .val (.int aa), .val (.ref b4), .val (.long (own_minJ (bb <<< ((own_minI ((1 : Int32) - (1 : Int32)) (30 : Int32)) &&& 0x3f).toInt64) (300000 : Int64))), .second, .val (.long (own_minJ (bb <<< ((own_minI (aa - (1 : Int32)) (30 : Int32)) &&& 0x3f).toInt64) (300000 : Int64))), .second, .val (.long (own_minJ (bb <<< ((own_minI ((aa + (1 : Int32)) - (1 : Int32)) (30 : Int32)) &&& 0x3f).toInt64) (300000 : Int64))), .second, .val (.int (1 : Int32)), .val (.int (1 : Int32)), .val (.int (1 : Int32))]) rfl ?_
    show Steps p.tables e below (T10.setTop (mkF m 131 #[.val (.int p1), .val (.long q2), .second, .val (.int p3), .val (.long bb), .second, .val (.int aa), .val (.ref b4), .val (.long (own_minJ (bb <<< ((own_minI ((1 : Int32) - (1 : Int32)) (30 : Int32)) &&& 0x3f).toInt64) (300000 : Int64))), .second, .val (.long (own_minJ (bb <<< ((own_minI (aa - (1 : Int32)) (30 : Int32)) &&& 0x3f).toInt64) (300000 : Int64))), .second, .val (.long (own_minJ (bb <<< ((own_minI ((aa + (1 : Int32)) - (1 : Int32)) (30 : Int32)) &&& 0x3f).toInt64) (300000 : Int64))), .second, .val (.int (1 : Int32)), .val (.int (1 : Int32)), .val (.int (1 : Int32))] [])) _
    refine XS.iload X10.here hx rfl (hb hby at_131) rfl ?_
    show Steps p.tables e below (T10.setTop (mkF m 133 #[.val (.int p1), .val (.long q2), .second, .val (.int p3), .val (.long bb), .second, .val (.int aa), .val (.ref b4), .val (.long (own_minJ (bb <<< ((own_minI ((1 : Int32) - (1 : Int32)) (30 : Int32)) &&& 0x3f).toInt64) (300000 : Int64))), .second, .val (.long (own_minJ (bb <<< ((own_minI (aa - (1 : Int32)) (30 : Int32)) &&& 0x3f).toInt64) (300000 : Int64))), .second, .val (.long (own_minJ (bb <<< ((own_minI ((aa + (1 : Int32)) - (1 : Int32)) (30 : Int32)) &&& 0x3f).toInt64) (300000 : Int64))), .second, .val (.int (1 : Int32)), .val (.int (1 : Int32)), .val (.int (1 : Int32))] [(.int (1 : Int32))])) _
    refine XS.ifNo X10.here hx rfl (hb hby at_133) rfl ((if0 _ _).trans (feq ((by decide) : ¬ ((1 : Int32) = (0 : Int32)))).1) ?_
    show Steps p.tables e below (T10.setTop (mkF m 136 #[.val (.int p1), .val (.long q2), .second, .val (.int p3), .val (.long bb), .second, .val (.int aa), .val (.ref b4), .val (.long (own_minJ (bb <<< ((own_minI ((1 : Int32) - (1 : Int32)) (30 : Int32)) &&& 0x3f).toInt64) (300000 : Int64))), .second, .val (.long (own_minJ (bb <<< ((own_minI (aa - (1 : Int32)) (30 : Int32)) &&& 0x3f).toInt64) (300000 : Int64))), .second, .val (.long (own_minJ (bb <<< ((own_minI ((aa + (1 : Int32)) - (1 : Int32)) (30 : Int32)) &&& 0x3f).toInt64) (300000 : Int64))), .second, .val (.int (1 : Int32)), .val (.int (1 : Int32)), .val (.int (1 : Int32))] [])) _
    refine XS.iload X10.here hx rfl (hb hby at_136) rfl ?_
    show Steps p.tables e below (T10.setTop (mkF m 138 #[.val (.int p1), .val (.long q2), .second, .val (.int p3), .val (.long bb), .second, .val (.int aa), .val (.ref b4), .val (.long (own_minJ (bb <<< ((own_minI ((1 : Int32) - (1 : Int32)) (30 : Int32)) &&& 0x3f).toInt64) (300000 : Int64))), .second, .val (.long (own_minJ (bb <<< ((own_minI (aa - (1 : Int32)) (30 : Int32)) &&& 0x3f).toInt64) (300000 : Int64))), .second, .val (.long (own_minJ (bb <<< ((own_minI ((aa + (1 : Int32)) - (1 : Int32)) (30 : Int32)) &&& 0x3f).toInt64) (300000 : Int64))), .second, .val (.int (1 : Int32)), .val (.int (1 : Int32)), .val (.int (1 : Int32))] [(.int (1 : Int32))])) _
    refine XS.ifNo X10.here hx rfl (hb hby at_138) rfl ((if0 _ _).trans (feq ((by decide) : ¬ ((1 : Int32) = (0 : Int32)))).1) ?_
    show Steps p.tables e below (T10.setTop (mkF m 141 #[.val (.int p1), .val (.long q2), .second, .val (.int p3), .val (.long bb), .second, .val (.int aa), .val (.ref b4), .val (.long (own_minJ (bb <<< ((own_minI ((1 : Int32) - (1 : Int32)) (30 : Int32)) &&& 0x3f).toInt64) (300000 : Int64))), .second, .val (.long (own_minJ (bb <<< ((own_minI (aa - (1 : Int32)) (30 : Int32)) &&& 0x3f).toInt64) (300000 : Int64))), .second, .val (.long (own_minJ (bb <<< ((own_minI ((aa + (1 : Int32)) - (1 : Int32)) (30 : Int32)) &&& 0x3f).toInt64) (300000 : Int64))), .second, .val (.int (1 : Int32)), .val (.int (1 : Int32)), .val (.int (1 : Int32))] [])) _
    refine XS.iload X10.here hx rfl (hb hby at_141) rfl ?_
    show Steps p.tables e below (T10.setTop (mkF m 143 #[.val (.int p1), .val (.long q2), .second, .val (.int p3), .val (.long bb), .second, .val (.int aa), .val (.ref b4), .val (.long (own_minJ (bb <<< ((own_minI ((1 : Int32) - (1 : Int32)) (30 : Int32)) &&& 0x3f).toInt64) (300000 : Int64))), .second, .val (.long (own_minJ (bb <<< ((own_minI (aa - (1 : Int32)) (30 : Int32)) &&& 0x3f).toInt64) (300000 : Int64))), .second, .val (.long (own_minJ (bb <<< ((own_minI ((aa + (1 : Int32)) - (1 : Int32)) (30 : Int32)) &&& 0x3f).toInt64) (300000 : Int64))), .second, .val (.int (1 : Int32)), .val (.int (1 : Int32)), .val (.int (1 : Int32))] [(.int (1 : Int32))])) _
    refine XS.ifNo X10.here hx rfl (hb hby at_143) rfl ((if0 _ _).trans (feq ((by decide) : ¬ ((1 : Int32) = (0 : Int32)))).1) ?_
    show Steps p.tables e below (T10.setTop (mkF m 146 #[.val (.int p1), .val (.long q2), .second, .val (.int p3), .val (.long bb), .second, .val (.int aa), .val (.ref b4), .val (.long (own_minJ (bb <<< ((own_minI ((1 : Int32) - (1 : Int32)) (30 : Int32)) &&& 0x3f).toInt64) (300000 : Int64))), .second, .val (.long (own_minJ (bb <<< ((own_minI (aa - (1 : Int32)) (30 : Int32)) &&& 0x3f).toInt64) (300000 : Int64))), .second, .val (.long (own_minJ (bb <<< ((own_minI ((aa + (1 : Int32)) - (1 : Int32)) (30 : Int32)) &&& 0x3f).toInt64) (300000 : Int64))), .second, .val (.int (1 : Int32)), .val (.int (1 : Int32)), .val (.int (1 : Int32))] [])) _
    refine XS.iconst X10.here hx rfl (hb hby at_146) ?_
    show Steps p.tables e below (T10.setTop (mkF m 147 #[.val (.int p1), .val (.long q2), .second, .val (.int p3), .val (.long bb), .second, .val (.int aa), .val (.ref b4), .val (.long (own_minJ (bb <<< ((own_minI ((1 : Int32) - (1 : Int32)) (30 : Int32)) &&& 0x3f).toInt64) (300000 : Int64))), .second, .val (.long (own_minJ (bb <<< ((own_minI (aa - (1 : Int32)) (30 : Int32)) &&& 0x3f).toInt64) (300000 : Int64))), .second, .val (.long (own_minJ (bb <<< ((own_minI ((aa + (1 : Int32)) - (1 : Int32)) (30 : Int32)) &&& 0x3f).toInt64) (300000 : Int64))), .second, .val (.int (1 : Int32)), .val (.int (1 : Int32)), .val (.int (1 : Int32))] [(.int (1 : Int32))])) _
    refine XS.goto X10.here hx rfl (pc0 := 147) (pc' := 151) rfl (hb hby at_147) (by decide) (by decide) ?_
    show Steps p.tables e below (T10.setTop (mkF m 151 #[.val (.int p1), .val (.long q2), .second, .val (.int p3), .val (.long bb), .second, .val (.int aa), .val (.ref b4), .val (.long (own_minJ (bb <<< ((own_minI ((1 : Int32) - (1 : Int32)) (30 : Int32)) &&& 0x3f).toInt64) (300000 : Int64))), .second, .val (.long (own_minJ (bb <<< ((own_minI (aa - (1 : Int32)) (30 : Int32)) &&& 0x3f).toInt64) (300000 : Int64))), .second, .val (.long (own_minJ (bb <<< ((own_minI ((aa + (1 : Int32)) - (1 : Int32)) (30 : Int32)) &&& 0x3f).toInt64) (300000 : Int64))), .second, .val (.int (1 : Int32)), .val (.int (1 : Int32)), .val (.int (1 : Int32))] [(.int (1 : Int32))])) _
    exact retN X10 hx (t := .boolean) Bd.returns (by simp) (hb hby at_151) hr
  · show Qrm0 Z p1 q2 p3 h0 n0 _ T10.heap _
    exact ⟨rfl, N10⟩
set_option maxRecDepth 65536 in
set_option maxHeartbeats 40000000 in
theorem comes_1 {Post : Tables → Env → Array Value → State → Outcome → State → Prop} (hpost : ∀ tb e args s v u, (limb_1_1.after args s (.returned v) u = true ∧ limb_1_2.after args s (.returned v) u = true ∧ True) → FrameEnd s (.returned v) u (Jvm.fieldLocs frame_1_writes args s ++ Jvm.arrayLocs frame_1_arrays args s ++ Jvm.staticLocs frame_1_statics s) 16 128 → Post tb e args s (.returned v) u) :
    ArmFor flags0 classFile x code maxLocals ret World_1 tables_1 room_1 Calls_1 rest_1 Pre_1 Post := by
  intro l hfl _ _ p e ha hc hk s m args below hf hA hF happ hP
  obtain ⟨hcalls, hrest, hpre⟩ := hP
  obtain ⟨-, -, -, hnamed, -, -, -, hat⟩ := (Spec.applies_iff hf).mp happ
  obtain ⟨hg, hn⟩ := and_e (Cond.before_iff.mp (show (Jvm.Cond.and given_1 narrow_1).before args s = true from hpre))
  obtain ⟨u0, u1⟩ := and_e hg
  obtain ⟨u2, u3⟩ := and_e u1
  obtain ⟨u4, u5⟩ := and_e u3
  obtain ⟨w0, w1, w2, rfl⟩ : ∃ w0 w1 w2 : Value, args = #[w0, w1, w2] := by
    have hs : args.size = 3 := by simpa [Cond.value, given_1] using u0
    obtain ⟨L⟩ := args
    match L, hs with
    | [w0, w1, w2], _ => exact ⟨w0, w1, w2, rfl⟩
  have hw := fun d (hd : d ∈ tables_1) => atoms_spec (ws := Jvm.Cond.code x code maxLocals ret :: tables_1) hat d (List.mem_cons_of_mem _ hd)
  have hfit : Fit s := fun {y c} hc i hi => by
    obtain ⟨ha, rfl⟩ := Array.getElem?_eq_some_iff.mp hc
    have q := List.all_eq_true.mp ((Array.all_eq_true_iff_forall_mem.mp hF) _ (Array.getElem_mem ha)) i (List.mem_range.mpr hi)
    simpa [Array.getElem?_eq_getElem hi] using q
  obtain ⟨i0, ei0⟩ := is_v u2
  obtain rfl : w0 = (.int i0) := Option.some.inj ei0
  obtain ⟨i1, ei1⟩ := isL_v u4
  obtain rfl : w1 = (.long i1) := Option.some.inj ei1
  obtain ⟨i2, ei2⟩ := is_v u5
  obtain rfl : w2 = (.int i2) := Option.some.inj ei2
  obtain ⟨n, o, h1, h2, h3, _, L, rfl, ⟨rfl, N⟩, hq⟩ := rm0 l s _ hw tables_1 i0 i1 i2 s.heap s.heap.size (Old.start s)  p e ha hc hk s m _ below hf ((Spec.applies_iff_loose hf).mp happ).1 ⟨rfl, State.Warmed39.refl s, rfl⟩ trivial
  refine ⟨n, _, h1, h2, h3, hpost _ _ _ _ _ _ ⟨Cond.after_iff.mpr rfl, Cond.after_iff.mpr (eq_i res_at (Term.int_eval (1)) rfl), trivial⟩ ⟨hq.1, hq.2.1, (hq.2.2.sift fun y hy => Or.inr (N y hy)).mono (by decide) (by decide)⟩⟩
theorem main_1_1 : Claimed_1_1 := comes_1 fun _ _ _ _ _ _ h hF => ⟨h.1, hF⟩
theorem main_1_2 : Claimed_1_2 := comes_1 fun _ _ _ _ _ _ h hF => ⟨h.2.1, hF⟩
end Jvm.Pilot.@@N@@
namespace Jvm.Pilot.@@N@@
open Jvm Jvm.ClassFile Sem Op Lib Jvm.Free Jvm.Stand Jvm.Pilot.@@N@@.Jvm.D
/-! MADE BY PROGRAM (witnessworld.py) out of the Statement's table words and the real class files: 11 classes; the members and pool entries that the words name. The judged class is class 1, her method 1. -/
namespace start1
open Jvm.ClassFile
def u (s : String) : CpInfo := .utf8 (stringToUtf16 s)
/-- a pool by its gaps: so many unusable entries, then the entry; so many at the end -/
def gap : Nat → List CpInfo → List CpInfo
  | 0, r => r
  | n + 1, r => .unusable :: gap n r
def poolList (es : List (Nat × CpInfo)) (last : Nat) : List CpInfo := es.foldr (fun e r => gap e.1 (e.2 :: r)) (gap last [])
def pool (es : List (Nat × CpInfo)) (last : Nat) : Array CpInfo := ⟨poolList es last⟩
def fileOf (pool : Array CpInfo) (this : Nat) (attrs : Array Attribute := #[]) (ms : Array MethodInfo := #[]) (fl : Nat := 33) (sup : Nat := 0) (ifs : Array Nat := #[]) (fds : Array FieldInfo := #[]) : ClassFile where
  minorVersion := 0
  majorVersion := 65
  constantPool := pool
  accessFlags := fl
  thisClass := this
  superClass := sup
  interfaces := ifs
  fields := fds
  methods := ms
  attributes := attrs
def plain (name : String) (sup : Option ClassId) : Class where
  name := name
  kind := .ordinary
  loader := none
  accessFlags := 33
  super := sup
  interfaces := #[]
  cf := none
  fields := #[]
  methods := #[]
  instanceTypes := #[]
  staticTypes := #[]
  resolved := #[]
  callSites := []
  init := .initialized
  statics := none
  mirror := none

def pool0 : Array CpInfo := pool [(5, u "<init>"), (0, u "()V"), (1, .class_ 10), (1, u "java/lang/Object")] 113

def k0c0 : Code := { maxStack := 0, maxLocals := 1, code := object_method_1_code, exceptionTable := #[], attributes := #[] }
def k0m0 : Method := { name := "<init>", desc := "()V", sig := { parameters := [], returnType := none }, accessFlags := 1, code := some k0c0 }
/-- java/lang/Object -/
def k0 : Class := { plain "java/lang/Object" none with
  accessFlags := 33
  interfaces := #[]
  cf := some (fileOf pool0 8 #[] #[{ accessFlags := 1, nameIndex := 5, descriptorIndex := 6, attributes := #[] }] 33 0 #[] #[])
  fields := #[]
  methods := #[k0m0]
  instanceTypes := #[]
  staticTypes := #[]
  resolved := Array.replicate 124 none
  statics := none }

def pool1 : Array CpInfo := pool [(2, .class_ 4), (1, u "java/lang/Object"), (0, u "<init>"), (0, u "()V"), (0, .long 9223372036854775807), (1, .long 300001), (1, .integer 2147483647), (0, .integer 2147483646), (0, .class_ 14), (0, u "com/example/runqueue/runqueue/Retries"), (0, .methodref 13 16), (0, .nameAndType 5 17), (0, u "(IJ)V"), (0, .methodref 13 19), (0, .nameAndType 20 21), (0, u "pauseMillis"), (0, u "(I)J"), (0, .long 300000), (1, .methodref 25 26), (0, .class_ 27), (0, .nameAndType 28 29), (0, u "java/lang/Math"), (0, u "min"), (0, u "(JJ)J"), (0, .long 2), (1, .class_ 33), (0, u "com/example/runqueue/runqueue/RetriesPauseMillisPinLaw"), (2, u "law"), (0, u "(IJI)Z")] 3

def k1m0 : Method := { name := "<init>", desc := "()V", sig := { parameters := [], returnType := none }, accessFlags := 1, code := none }
def k1c1 : Code := { maxStack := 6, maxLocals := 17, code := code, exceptionTable := #[], attributes := #[] }
def k1m1 : Method := { name := "law", desc := "(IJI)Z", sig := { parameters := [.int, .long, .int], returnType := some .boolean }, accessFlags := 9, code := some k1c1 }
/-- com/example/runqueue/runqueue/RetriesPauseMillisPinLaw -/
def k1 : Class := { plain "com/example/runqueue/runqueue/RetriesPauseMillisPinLaw" (some 0) with
  accessFlags := 49
  interfaces := #[]
  cf := some (fileOf pool1 32 #[] #[{ accessFlags := 1, nameIndex := 5, descriptorIndex := 6, attributes := #[] }, { accessFlags := 9, nameIndex := 36, descriptorIndex := 37, attributes := #[] }] 49 2 #[] #[])
  fields := #[]
  methods := #[k1m0, k1m1]
  instanceTypes := #[]
  staticTypes := #[]
  resolved := Array.replicate 41 none
  statics := none }

def pool2 : Array CpInfo := pool [(1, .methodref 2 3), (0, .class_ 4), (0, .nameAndType 5 6), (0, u "java/lang/Object"), (0, u "<init>"), (0, u "()V"), (0, .class_ 8), (0, u "java/lang/Record")] 13

def k2c0 : Code := { maxStack := 1, maxLocals := 1, code := jdk_30_method_1_code, exceptionTable := #[], attributes := #[] }
def k2m0 : Method := { name := "<init>", desc := "()V", sig := { parameters := [], returnType := none }, accessFlags := 4, code := some k2c0 }
/-- java/lang/Record -/
def k2 : Class := { plain "java/lang/Record" (some 0) with
  accessFlags := 1057
  interfaces := #[]
  cf := some (fileOf pool2 7 #[] #[{ accessFlags := 4, nameIndex := 5, descriptorIndex := 6, attributes := #[] }] 1057 2 #[] #[])
  fields := #[]
  methods := #[k2m0]
  instanceTypes := #[]
  staticTypes := #[]
  resolved := Array.replicate 22 none
  statics := none }

def pool3 : Array CpInfo := pool [(1, .methodref 2 3), (0, .class_ 4), (0, .nameAndType 5 6), (0, u "java/lang/Record"), (0, u "<init>"), (0, u "()V"), (0, .fieldref 8 9), (0, .class_ 10), (0, .nameAndType 11 12), (0, u "com/example/runqueue/runqueue/Retries"), (0, u "count"), (0, u "I"), (0, .fieldref 8 14), (0, .nameAndType 15 16), (0, u "backoffMillis"), (0, u "J"), (28, .methodref 46 47), (0, .class_ 48), (0, .nameAndType 49 50), (0, u "java/lang/Math"), (0, u "min"), (0, u "(II)I"), (0, .long 300000), (1, .methodref 46 54), (0, .nameAndType 49 55), (0, u "(JJ)J"), (12, u "MAX_COUNT"), (2, u "MAX_PAUSE_SECONDS"), (1, u "(IJ)V"), (6, u "pauseMillis"), (0, u "(I)J")] 25

def k3c0 : Code := { maxStack := 3, maxLocals := 4, code := prog_36_method_1_code, exceptionTable := #[], attributes := #[] }
def k3m0 : Method := { name := "<init>", desc := "(IJ)V", sig := { parameters := [.int, .long], returnType := none }, accessFlags := 0, code := some k3c0 }
def k3c1 : Code := { maxStack := 4, maxLocals := 4, code := prog_36_method_3_code, exceptionTable := #[], attributes := #[] }
def k3m1 : Method := { name := "pauseMillis", desc := "(I)J", sig := { parameters := [.int], returnType := some .long }, accessFlags := 0, code := some k3c1 }
/-- com/example/runqueue/runqueue/Retries -/
def k3 : Class := { plain "com/example/runqueue/runqueue/Retries" (some 2) with
  accessFlags := 48
  interfaces := #[]
  cf := some (fileOf pool3 8 #[] #[{ accessFlags := 0, nameIndex := 5, descriptorIndex := 73, attributes := #[] }, { accessFlags := 0, nameIndex := 80, descriptorIndex := 81, attributes := #[] }] 48 2 #[] #[{ accessFlags := 18, nameIndex := 11, descriptorIndex := 12, attributes := #[] }, { accessFlags := 18, nameIndex := 15, descriptorIndex := 16, attributes := #[] }, { accessFlags := 24, nameIndex := 68, descriptorIndex := 12, attributes := #[] }, { accessFlags := 24, nameIndex := 71, descriptorIndex := 12, attributes := #[] }])
  fields := #[{ name := "count", type := .int, accessFlags := 18, slot := 0, constantValue := 0 }, { name := "backoffMillis", type := .long, accessFlags := 18, slot := 1, constantValue := 0 }, { name := "MAX_COUNT", type := .int, accessFlags := 24, slot := 0, constantValue := 0 }, { name := "MAX_PAUSE_SECONDS", type := .int, accessFlags := 24, slot := 1, constantValue := 0 }]
  methods := #[k3m0, k3m1]
  instanceTypes := #[.int, .long]
  staticTypes := #[.int, .int]
  resolved := Array.replicate 107 none
  statics := none }

def pool4 : Array CpInfo := pool [(1, .class_ 2), (0, u "java/lang/Math"), (1, .class_ 6), (1, u "java/lang/Object"), (0, u "<init>"), (0, u "()V"), (89, .class_ 100), (1, u "java/lang/Math$RandomNumberGeneratorHolder"), (20, u "(JJ)J"), (50, u "negativeZeroFloatBits"), (0, u "J"), (2, u "negativeZeroDoubleBits"), (24, u "min"), (43, u "$assertionsDisabled"), (0, u "Z"), (88, u "(II)I"), (2, u "twoToTheDoubleScaleDown"), (0, u "D"), (4, u "twoToTheDoubleScaleUp"), (9, u "E"), (3, u "PI"), (2, u "TAU"), (2, u "DEGREES_TO_RADIANS"), (0, u "RADIANS_TO_DEGREES")] 94

def k4m0 : Method := { name := "<init>", desc := "()V", sig := { parameters := [], returnType := none }, accessFlags := 2, code := none }
def k4c1 : Code := { maxStack := 2, maxLocals := 2, code := jdk_29_method_69_code, exceptionTable := #[], attributes := #[] }
def k4m1 : Method := { name := "min", desc := "(II)I", sig := { parameters := [.int, .int], returnType := some .int }, accessFlags := 9, code := some k4c1 }
def k4c2 : Code := { maxStack := 4, maxLocals := 4, code := jdk_29_method_70_code, exceptionTable := #[], attributes := #[] }
def k4m2 : Method := { name := "min", desc := "(JJ)J", sig := { parameters := [.long, .long], returnType := some .long }, accessFlags := 9, code := some k4c2 }
/-- java/lang/Math -/
def k4 : Class := { plain "java/lang/Math" (some 0) with
  accessFlags := 49
  interfaces := #[]
  cf := some (fileOf pool4 1 #[.nestMembers #[98]] #[{ accessFlags := 2, nameIndex := 7, descriptorIndex := 8, attributes := #[] }, { accessFlags := 9, nameIndex := 201, descriptorIndex := 335, attributes := #[] }, { accessFlags := 9, nameIndex := 201, descriptorIndex := 121, attributes := #[] }] 49 4 #[] #[{ accessFlags := 25, nameIndex := 354, descriptorIndex := 339, attributes := #[] }, { accessFlags := 25, nameIndex := 358, descriptorIndex := 339, attributes := #[] }, { accessFlags := 25, nameIndex := 361, descriptorIndex := 339, attributes := #[] }, { accessFlags := 26, nameIndex := 364, descriptorIndex := 339, attributes := #[] }, { accessFlags := 26, nameIndex := 365, descriptorIndex := 339, attributes := #[] }, { accessFlags := 26, nameIndex := 172, descriptorIndex := 173, attributes := #[] }, { accessFlags := 26, nameIndex := 176, descriptorIndex := 173, attributes := #[] }, { accessFlags := 8, nameIndex := 344, descriptorIndex := 339, attributes := #[] }, { accessFlags := 8, nameIndex := 338, descriptorIndex := 339, attributes := #[] }, { accessFlags := 4120, nameIndex := 245, descriptorIndex := 246, attributes := #[] }])
  fields := #[{ name := "E", type := .double, accessFlags := 25, slot := 0, constantValue := 0 }, { name := "PI", type := .double, accessFlags := 25, slot := 1, constantValue := 0 }, { name := "TAU", type := .double, accessFlags := 25, slot := 2, constantValue := 0 }, { name := "DEGREES_TO_RADIANS", type := .double, accessFlags := 26, slot := 3, constantValue := 0 }, { name := "RADIANS_TO_DEGREES", type := .double, accessFlags := 26, slot := 4, constantValue := 0 }, { name := "negativeZeroFloatBits", type := .long, accessFlags := 26, slot := 5, constantValue := 0 }, { name := "negativeZeroDoubleBits", type := .long, accessFlags := 26, slot := 6, constantValue := 0 }, { name := "twoToTheDoubleScaleUp", type := .double, accessFlags := 8, slot := 7, constantValue := 0 }, { name := "twoToTheDoubleScaleDown", type := .double, accessFlags := 8, slot := 8, constantValue := 0 }, { name := "$assertionsDisabled", type := .boolean, accessFlags := 4120, slot := 9, constantValue := 0 }]
  methods := #[k4m0, k4m1, k4m2]
  instanceTypes := #[]
  staticTypes := #[.double, .double, .double, .double, .double, .long, .long, .double, .double, .boolean]
  resolved := Array.replicate 460 none
  statics := none }

def pool5 : Array CpInfo := pool [(1, u "java/lang/Cloneable"), (0, .class_ 1), (0, u "java/lang/Object"), (0, .class_ 3)] 3

/-- java/lang/Cloneable -/
def k5 : Class := { plain "java/lang/Cloneable" (some 0) with
  accessFlags := 1537
  interfaces := #[]
  cf := some (fileOf pool5 2 #[] #[] 1537 4 #[] #[])
  fields := #[]
  methods := #[]
  instanceTypes := #[]
  staticTypes := #[]
  resolved := Array.replicate 8 none
  statics := none }

def pool6 : Array CpInfo := pool [(1, u "java/io/Serializable"), (0, .class_ 1), (0, u "java/lang/Object"), (0, .class_ 3)] 3

/-- java/io/Serializable -/
def k6 : Class := { plain "java/io/Serializable" (some 0) with
  accessFlags := 1537
  interfaces := #[]
  cf := some (fileOf pool6 2 #[] #[] 1537 4 #[] #[])
  fields := #[]
  methods := #[]
  instanceTypes := #[]
  staticTypes := #[]
  resolved := Array.replicate 8 none
  statics := none }

/-- the primitive byte -/
def k7 : Class := { plain "byte" none with kind := .primitive 'B', accessFlags := 0x411 }
/-- [B -/
def k8 : Class := { plain "[B" (some 0) with kind := .array 7 .byte, interfaces := #[5, 6], accessFlags := 1041 }

/-- the primitive int -/
def k9 : Class := { plain "int" none with kind := .primitive 'I', accessFlags := 0x411 }
/-- [I -/
def k10 : Class := { plain "[I" (some 0) with kind := .array 9 .int, interfaces := #[5, 6], accessFlags := 1041 }

def heap : Heap := #[]
def classes : Array Class := #[k0, k1, k2, k3, k4, k5, k6, k7, k8, k9, k10]
def interned : List (Array UInt16 × Addr) := []
def slotsUsed : Nat := 0
def theMethod : MethodId := ⟨1, 1⟩
def args0 : Array Value := #[.int 1, .long 5, .int 3]
def aboutOver (below : List Frame) : State where
  vm := { classes := classes, interned := interned.toArray }
  heap := heap
  slotsUsed := slotsUsed
  threads := #[{ frames := .invoking theMethod args0 :: below }]
def below0 : List Frame := [.native { method := ⟨0, 0⟩, args := #[] }]
def about1 : State := aboutOver below0
def p0 : Program := .bare "" "" ""
def e0 : Env := launch0.env 0 0 0
theorem w_frames : about1.frames = Frame.invoking theMethod args0 :: below0 := rfl
set_option maxRecDepth 65536 in
theorem w_args : argsFit about1.vm theMethod args0 = true := by decide +kernel
set_option maxRecDepth 65536 in
theorem w_heap : heapFits about1 = true := by decide +kernel
set_option maxRecDepth 65536 in
theorem w_runnable : about1.curStatus? = some .runnable := by decide +kernel
set_option maxRecDepth 65536 in
theorem w_alone : about1.alone = true := by decide +kernel
set_option maxRecDepth 65536 in
theorem w_named : about1.methodNamed? x = some theMethod := by decide +kernel
set_option maxRecDepth 65536 in
theorem w_hears : about1.hears theMethod below0 = true := by decide +kernel
set_option maxRecDepth 65536 in
theorem w_ripe : about1.ripe theMethod args0 below0 = true := by decide +kernel
theorem w_running : about1.status = .running := rfl
set_option maxRecDepth 65536 in
theorem w_room : about1.hasRoom e0.platform room_1 = true :=
  launch0.hasRoom_least _ room_1 (by decide +kernel) (by decide +kernel) (by decide +kernel) (by decide +kernel) (by decide +kernel) (by decide +kernel)
theorem allAtoms_all (ts : List Jvm.Cond) (a : Array Jvm.Value) (st : Jvm.State) : (allAtoms ts).before a st = ts.all (fun c => c.before a st) := by
  induction ts with
  | nil => rfl
  | cons c t ih =>
    show (Jvm.Cond.and c (allAtoms t)).before a st = _
    rw [Jvm.Cond.before_and, ih, List.all_cons]
def words1 : List Jvm.Cond := Jvm.Cond.code x code maxLocals ret :: tables_1
/-- a 'code' word, met by the world's own term for the bytes: nothing is compared byte by byte -/
theorem code_word {y : MethodName} {bytes : ByteArray} {mx : Nat} {rt : Option FieldType} {a : Array Value} {s : State} {m : MethodId} {meth : Method} {c : Code} (h1 : s.methodNamed? y = some m) (h2 : s.vm.method? m = some meth) (h3 : meth.code = some c) (h4 : c.code = bytes)
    (h5 : (c.maxLocals == mx && c.exceptionTable.isEmpty && decide (c.maxStack ≤ mostOperands) && decide (meth.sig.returnType = rt) && !meth.locks && decide (parseMethodDescriptor y.desc = some meth.sig)) = true) : (Jvm.Cond.code y bytes mx rt).before a s = true := by
  simp only [Bool.and_eq_true, beq_iff_eq, Bool.not_eq_true', decide_eq_true_eq] at h5
  obtain ⟨⟨⟨⟨⟨g1, g2⟩, g3⟩, g4⟩, g5⟩, g6⟩ := h5
  simp [Cond.before, Cond.holds, Cond.value, h1, h2, h3, h4, g1, g2, g3, g4, g5, g6]
def isCode : Jvm.Cond → Bool
  | .code _ _ _ _ => true
  | _ => false
theorem all_split {L : List Jvm.Cond} {P : Jvm.Cond → Bool} (h1 : L.all (fun c => isCode c || P c) = true) (h2 : ∀ c ∈ L.filter isCode, P c = true) : L.all P = true := by
  refine List.all_eq_true.mpr fun c hc => ?_
  have h := List.all_eq_true.mp h1 c hc
  rcases Bool.eq_false_or_eq_true (isCode c) with hi | hi
  · exact h2 c (List.mem_filter.mpr ⟨hc, hi⟩)
  · simpa [hi] using h
set_option maxRecDepth 65536 in
theorem w_c0 : (Jvm.Cond.code x code maxLocals ret).before args0 about1 = true := code_word (m := ⟨1, 1⟩) (meth := k1m1) (c := k1c1) (by decide +kernel) rfl rfl rfl (by decide +kernel)
set_option maxRecDepth 65536 in
theorem w_c1 : (Jvm.Cond.code ({ cls := "com/example/runqueue/runqueue/Retries", name := "<init>", desc := "(IJ)V" } : Jvm.MethodName) prog_36_method_1_code (4 : Nat) (Option.none : Option Jvm.ClassFile.FieldType)).before args0 about1 = true := code_word (m := ⟨3, 0⟩) (meth := k3m0) (c := k3c0) (by decide +kernel) rfl rfl rfl (by decide +kernel)
set_option maxRecDepth 65536 in
theorem w_c2 : (Jvm.Cond.code ({ cls := "java/lang/Record", name := "<init>", desc := "()V" } : Jvm.MethodName) jdk_30_method_1_code (1 : Nat) (Option.none : Option Jvm.ClassFile.FieldType)).before args0 about1 = true := code_word (m := ⟨2, 0⟩) (meth := k2m0) (c := k2c0) (by decide +kernel) rfl rfl rfl (by decide +kernel)
set_option maxRecDepth 65536 in
theorem w_c3 : (Jvm.Cond.code ({ cls := "java/lang/Object", name := "<init>", desc := "()V" } : Jvm.MethodName) object_method_1_code (1 : Nat) (Option.none : Option Jvm.ClassFile.FieldType)).before args0 about1 = true := code_word (m := ⟨0, 0⟩) (meth := k0m0) (c := k0c0) (by decide +kernel) rfl rfl rfl (by decide +kernel)
set_option maxRecDepth 65536 in
theorem w_c4 : (Jvm.Cond.code ({ cls := "com/example/runqueue/runqueue/Retries", name := "pauseMillis", desc := "(I)J" } : Jvm.MethodName) prog_36_method_3_code (4 : Nat) (Option.some Jvm.ClassFile.FieldType.long)).before args0 about1 = true := code_word (m := ⟨3, 1⟩) (meth := k3m1) (c := k3c1) (by decide +kernel) rfl rfl rfl (by decide +kernel)
set_option maxRecDepth 65536 in
theorem w_c5 : (Jvm.Cond.code ({ cls := "java/lang/Math", name := "min", desc := "(II)I" } : Jvm.MethodName) jdk_29_method_69_code (2 : Nat) (Option.some Jvm.ClassFile.FieldType.int)).before args0 about1 = true := code_word (m := ⟨4, 1⟩) (meth := k4m1) (c := k4c1) (by decide +kernel) rfl rfl rfl (by decide +kernel)
set_option maxRecDepth 65536 in
theorem w_c6 : (Jvm.Cond.code ({ cls := "java/lang/Math", name := "min", desc := "(JJ)J" } : Jvm.MethodName) jdk_29_method_70_code (4 : Nat) (Option.some Jvm.ClassFile.FieldType.long)).before args0 about1 = true := code_word (m := ⟨4, 2⟩) (meth := k4m2) (c := k4c2) (by decide +kernel) rfl rfl rfl (by decide +kernel)
def codes1 : List Jvm.Cond := [Jvm.Cond.code x code maxLocals ret, Jvm.Cond.code ({ cls := "com/example/runqueue/runqueue/Retries", name := "<init>", desc := "(IJ)V" } : Jvm.MethodName) prog_36_method_1_code (4 : Nat) (Option.none : Option Jvm.ClassFile.FieldType), Jvm.Cond.code ({ cls := "java/lang/Record", name := "<init>", desc := "()V" } : Jvm.MethodName) jdk_30_method_1_code (1 : Nat) (Option.none : Option Jvm.ClassFile.FieldType), Jvm.Cond.code ({ cls := "java/lang/Object", name := "<init>", desc := "()V" } : Jvm.MethodName) object_method_1_code (1 : Nat) (Option.none : Option Jvm.ClassFile.FieldType), Jvm.Cond.code ({ cls := "com/example/runqueue/runqueue/Retries", name := "pauseMillis", desc := "(I)J" } : Jvm.MethodName) prog_36_method_3_code (4 : Nat) (Option.some Jvm.ClassFile.FieldType.long), Jvm.Cond.code ({ cls := "java/lang/Math", name := "min", desc := "(II)I" } : Jvm.MethodName) jdk_29_method_69_code (2 : Nat) (Option.some Jvm.ClassFile.FieldType.int), Jvm.Cond.code ({ cls := "java/lang/Math", name := "min", desc := "(JJ)J" } : Jvm.MethodName) jdk_29_method_70_code (4 : Nat) (Option.some Jvm.ClassFile.FieldType.long)]
set_option maxRecDepth 65536 in
theorem codes_eq : words1.filter isCode = codes1 := rfl
theorem w_codes : ∀ c ∈ words1.filter isCode, c.before args0 about1 = true := by
  rw [codes_eq]
  intro c hc
  simp only [codes1, List.mem_cons, List.not_mem_nil, or_false] at hc
  rcases hc with rfl | rfl | rfl | rfl | rfl | rfl | rfl
  · exact w_c0
  · exact w_c1
  · exact w_c2
  · exact w_c3
  · exact w_c4
  · exact w_c5
  · exact w_c6
set_option maxRecDepth 65536 in
theorem w_t1 : (words1.take 24).all (fun c => isCode c || c.before args0 about1) = true := by decide +kernel
set_option maxRecDepth 65536 in
theorem w_t2 : (words1.drop 24).all (fun c => isCode c || c.before args0 about1) = true := by decide +kernel
theorem w_tables : (allAtoms (Jvm.Cond.code x code maxLocals ret :: tables_1)).before args0 about1 = true := by
  rw [allAtoms_all]
  show words1.all (fun c => c.before args0 about1) = true
  refine all_split ?_ w_codes
  rw [← List.take_append_drop 24 words1, List.all_append, w_t1, w_t2]
  rfl
set_option maxRecDepth 65536 in
theorem w_case : (Jvm.Cond.and given_1 narrow_1).before args0 about1 = true := by decide +kernel
theorem w_applies : (headSpec (Jvm.Cond.code x code maxLocals ret :: tables_1) room_1).applies x e0.platform about1 = true :=
  (Spec.applies_iff w_frames).mpr ⟨w_running, w_runnable, w_alone, w_named, w_hears, w_ripe, w_room, w_tables⟩
theorem atStart : AtStart classFile x code maxLocals ret World_1 tables_1 room_1 Calls_1 rest_1 Pre_1 launch0 p0 e0 about1 theMethod args0 below0 :=
  ⟨lists_1, trivial, launch0.admits_env _ _ _, launch0.least_env, fairChoices_fair.cas, fairChoices_fair.clock, w_frames, w_args, w_heap, w_applies, trivial, trivial, w_case⟩
end start1
theorem witness_1 : WitnessClaimed_1 := ⟨start1.p0, start1.e0, start1.about1, start1.theMethod, start1.args0, start1.below0, start1.atStart⟩
end Jvm.Pilot.@@N@@
