import JvmDerived
import JvmDerived.Pilot.@@N@@Statement
import JvmDerived.Pilot.@@N@@Code
set_option linter.unusedVariables false
set_option linter.unusedSimpArgs false
namespace Jvm.RoadKit
open Sem ClassFile Op Lib Jvm.Stand Jvm.Free Jvm.LawKit
section New
variable {p : Program} {l : Launch} {e : Env} {R : Room} {s : State} {m : MethodId} {args : Array Value} {below : List Frame} {meth : Method} {c : Code} {T : State} {locs : List Loc} {cells slots : Nat}
theorem retI (X : Stand p l e R s m args below meth c T locs cells slots) (hx : p.tables.exec = Jvm.exec) {pc : Nat} {Ls : Array Slot} {z : Int32} {rest : List Value} (hret : meth.sig.returnType = some .int) (hd : decode c.code pc = .ok (.ireturn, 1)) {fs : List Frame}
    (hl : ∀ (f : JFrame) (acts : List Action), f.method = m → f.locked = none → f.entered = [] → (doReturn e (T.setTop f) acts (some (.int z))).1 = T.setFrames fs) : Steps p.tables e below (T.setTop (mkF m pc Ls (.int z :: rest))) (T.setFrames fs) := by
  have hm' : T.vm.method? m = some meth := X.method'
  have hn : narrow .int (.int z) = .int z := rfl
  show Steps p.tables e below (T.setTop { method := m, pc := pc, locals := Ls, stack := _ :: rest, locked := none }) _
  jvm_step X.here [X.here.top, hx, hd, hm', hret, hn]
  first | (intro acts; rw [hl _ acts rfl rfl rfl]) | rw [hl _ _ rfl rfl rfl]
  exact Steps.refl _
end New
end Jvm.RoadKit
namespace Jvm.Pilot.@@N@@
open Jvm Jvm.ClassFile Sem Op Lib Jvm.Free Jvm.Stand Jvm.LawKit Jvm.RoadKit Bundle Jvm.Pilot.@@N@@.Jvm.D
theorem own_n0 {Z : State} {n0 : Nat} {h : Heap} (O : Old Z n0 h) : n0 ≤ h.size := O.1 ▸ O.2.1
theorem own_born {Z : State} {n0 : Nat} {h : Heap} {b : Addr} (O : Old Z n0 h) (q : h.size ≤ b) : n0 ≤ b := Nat.le_trans (own_n0 O) q
theorem own_eqle {b : Addr} {n : Nat} (q : b = n) : n ≤ b := Nat.le_of_eq q.symm
theorem own_ltn {a b : Addr} {n : Nat} (h : a < n) (q : n ≤ b) : a ≠ b := Nat.ne_of_lt (Nat.lt_of_lt_of_le h q)
theorem own_oldlt {Z : State} {n0 : Nat} {h : Heap} {a : Addr} (O : Old Z n0 h) (q : a < Z.heap.size) : a < h.size := Nat.lt_of_lt_of_le q O.2.1
def own_se (x y a b : Int32) : Int32 := if x = y then a else b
def own_sl (x y a b : Int32) : Int32 := if x < y then a else b
def own_seJ (x y : Int32) (a b : Int64) : Int64 := if x = y then a else b
def own_slJ (x y : Int32) (a b : Int64) : Int64 := if x < y then a else b
theorem own_eqint {args : Array Value} {first s : State} {o : Option Outcome} {idx : List Nat} {a : Term} {n : Int32} (h : (Jvm.Cond.eq a (Term.int n)).value args first o s idx = some true) : a.eval args first o idx s = some (.int n) := by
  obtain ⟨x, y, h1, h2, k1, k2⟩ := cmp_v (Or.inl h)
  have h2' : y = .int n := (Option.some.inj (h2.symm.trans (Term.int_eval n)))
  subst h2'
  obtain ⟨z, rfl⟩ := k2
  rw [h1]
  have q := h
  simp only [Jvm.Cond.value, h1, Term.int_eval] at q
  simpa using q

theorem own_and3 (x : Int32) : x &&& 3 = 0 ∨ x &&& 3 = 1 ∨ x &&& 3 = 2 ∨ x &&& 3 = 3 := by
  have h := c_mask x 3 2 (by decide) (by decide)
  have h2 : (x &&& 3).toInt = 0 ∨ (x &&& 3).toInt = 1 ∨ (x &&& 3).toInt = 2 ∨ (x &&& 3).toInt = 3 := by
    have h3 : (x &&& 3).toInt = x.toInt % 4 := h
    omega
  rcases h2 with h2 | h2 | h2 | h2
  · exact Or.inl (Int32.toInt_inj.mp (h2.trans (by decide)))
  · exact Or.inr (Or.inl (Int32.toInt_inj.mp (h2.trans (by decide))))
  · exact Or.inr (Or.inr (Or.inl (Int32.toInt_inj.mp (h2.trans (by decide)))))
  · exact Or.inr (Or.inr (Or.inr (Int32.toInt_inj.mp (h2.trans (by decide)))))

theorem own_lim (p a c : Int32) (h : c = ((p &&& (2147483647 : Int32)) % (101 : Int32))) : (a < ((1 : Int32) + c)) ↔ ¬ (c < a) := by
  have h1 := (c_andS p 2147483647).2.2 (by decide)
  have h2 := (c_irem (p &&& 2147483647) 101 101 (by decide)).1 h1
  have h3 := c_iadd 1 c
  have h4 : (1 : Int32).toInt = 1 := by decide
  have h5 := rng32 (1 + c)
  rw [← h] at h2
  rw [h4] at h3
  rw [Int32.lt_iff_toInt_lt, Int32.lt_iff_toInt_lt]
  omega

theorem own_wS {Z : State} {a0 : Array Value} (hw : ∀ d ∈ tables_1, d.before a0 Z = true) : ∀ a ∈ Bundle.stringAtoms, a.before a0 Z = true := by
  intro a ha
  simp only [Bundle.stringAtoms, List.mem_cons, List.not_mem_nil, or_false] at ha
  rcases ha with rfl | rfl | rfl | rfl | rfl | rfl | rfl
  · exact (hw _ (List.mem_of_getElem? (i := 8) rfl))
  · exact (hw _ (List.mem_of_getElem? (i := 9) rfl))
  · exact (hw _ (List.mem_of_getElem? (i := 10) rfl))
  · exact (hw _ (List.mem_of_getElem? (i := 11) rfl))
  · exact (hw _ (List.mem_of_getElem? (i := 12) rfl))
  · exact (hw _ (List.mem_of_getElem? (i := 13) rfl))
  · exact (hw _ (List.mem_of_getElem? (i := 14) rfl))
theorem d1_0 : decode prog_12_method_1_code 0 = .ok (.aload_n 0, 1) := by decide +kernel
theorem d1_1 : decode prog_12_method_1_code 1 = .ok (.invokespecial 1, 3) := by decide +kernel
theorem d2_0 : decode jdk_30_method_1_code 0 = .ok (.aload_n 0, 1) := by decide +kernel
theorem d2_1 : decode jdk_30_method_1_code 1 = .ok (.invokespecial 1, 3) := by decide +kernel
theorem d2_4 : decode jdk_30_method_1_code 4 = .ok (.return_, 1) := by decide +kernel
theorem ef_2_R (m : MethodId) (x0 : Addr) : entryFrame m #[(.ref x0)] 1 = mkF m 0 #[.val (.ref x0)] [] := by first | (simp [entryFrame, mkF, argsToLocals, Value.category]; done) | rfl
theorem pn_0 : plainName "java/lang/Record" = true := by first | (simp [plainName, overriddenIn]; done) | decide +kernel
def Qrm2 (Z : State) (a1 : Addr) (h0 : Heap) (n0 : Nat) (v : Option Value) (h : Heap) (L : List Loc) : Prop := v = none ∧ Fr n0 L ∧ h = h0
set_option maxRecDepth 65536 in
set_option maxHeartbeats 40000000 in
theorem rm2 (l : Launch) (Z : State) (a0 : Array Value) (hw : ∀ d ∈ tables_1, d.before a0 Z = true) (ws : List Jvm.Cond) (a1 : Addr) (h0 : Heap) (n0 : Nat) (O0 : Old Z n0 h0) :
    MetFree l (⟨"java/lang/Record", "<init>", "()V"⟩ : MethodName) (head1 (Jvm.Cond.code (⟨"java/lang/Record", "<init>", "()V"⟩ : MethodName) jdk_30_method_1_code 1 none :: ws) ({ frames := 1, cells := 0, slots := 0, locals := 12 } : Room)) (fun a U => a = #[(.ref a1)] ∧ Z.Warmed39 U.vm ∧ U.heap = h0) (fun _ _ _ _ _ => True) (fun _ U o U' => ∃ v L, o = .returned v ∧ Qrm2 Z a1 h0 n0 v U'.heap L ∧ FrameEnd U o U' L ({ frames := 1, cells := 0, slots := 0, locals := 12 } : Room).cells ({ frames := 1, cells := 0, slots := 0, locals := 12 } : Room).slots) := by
  refine MetFree.of_bodySF (plainFor_of_name pn_0) hisR ?_
  intro p e s m args below meth c s₁ Bd hml0 hP hK
  obtain ⟨rfl, hZ, hh⟩ := hP
  have hx := Bd.exec
  have hby := Bd.bytes
  have hml : c.maxLocals = 1 := hml0
  have hown : s.vm.findClass "java/lang/Record" = some m.cls := findClass_of_methodNamed Bd.named
  have hnm := (name_of_methodNamed Bd.named Bd.method).1
  have X0 : Stand p l e ({ frames := 1, cells := 0, slots := 0, locals := 12 } : Room) s m #[(.ref a1)] below meth c s₁ [] 0 0 := Stand.of_body Bd
  have e0 : s₁.heap = h0 := by rw [← hh, Bd.state]; rfl
  have N0 := Fr.nil n0
  have pre0 : ∀ t, Steps p.tables e below (s₁.setTop (mkF m 0 #[.val (.ref a1)] [])) t → Steps p.tables e below (s₁.setTop (entryFrame m #[(.ref a1)] 1)) t := fun t k => castTop (ef_2_R m a1) k
  obtain ⟨T2, X2, e2, st2⟩ := initO X0 hx hZ hown (hw _ (List.mem_of_getElem? (i := 23) rfl)) (hw _ (List.mem_of_getElem? (i := 24) rfl)) (hw _ (List.mem_of_getElem? (i := 25) rfl)) e0 (g := (mkF m 1 #[.val (.ref a1)] [(.ref a1)])) rfl (by rw [hml]; rfl) rfl (hb hby d2_1) (by decide) (W := 0) (by show 2 * 0 + _ ≤ _; exact Nat.le_of_eq rfl) (by decide)
  obtain ⟨fs, hr, hrun, hended, hW, hsame⟩ := X2.leave (v := none) (fun _ => rfl)
  refine ⟨_, _, pre0 _ ?_, hrun, hended, _, _, rfl, ?_, ⟨_, rfl⟩, hW, hsame.mono (by decide) (by decide)⟩
  · show Steps p.tables e below (s₁.setTop (mkF m 0 #[.val (.ref a1)] [])) _
    refine XS.aloadN X0.here hx rfl (hb hby d2_0) rfl rfl ?_
    show Steps p.tables e below (s₁.setTop (mkF m 1 #[.val (.ref a1)] [(.ref a1)])) _
    refine st2 _ ?_
    show Steps p.tables e below (T2.setTop (mkF m 4 #[.val (.ref a1)] [])) _
    exact X2.returnOut hx Bd.returns (hb hby d2_4) hr
  · show Qrm2 Z a1 h0 n0 _ T2.heap _
    rw [e2]
    exact ⟨rfl, N0, rfl⟩
theorem pd_1 : parseMethodDescriptor "()V" = some ⟨[], none⟩ := by decide +kernel
theorem d1_4 : decode prog_12_method_1_code 4 = .ok (.aload_n 1, 1) := by decide +kernel
theorem d1_5 : decode prog_12_method_1_code 5 = .ok (.ldc 7, 2) := by decide +kernel
theorem d1_7 : decode prog_12_method_1_code 7 = .ok (.invokestatic 9, 3) := by decide +kernel
theorem d4_0 : decode jdk_31_method_11_code 0 = .ok (.aload_n 0, 1) := by decide +kernel
theorem d4_1 : decode jdk_31_method_11_code 1 = .ok (.ifnonnull 12, 3) := by decide +kernel
theorem d4_13 : decode jdk_31_method_11_code 13 = .ok (.aload_n 0, 1) := by decide +kernel
theorem d4_14 : decode jdk_31_method_11_code 14 = .ok (.areturn, 1) := by decide +kernel
theorem ef_4_RR (m : MethodId) (x0 : Addr) (x1 : Addr) : entryFrame m #[(.ref x0), (.ref x1)] 2 = mkF m 0 #[.val (.ref x0), .val (.ref x1)] [] := by first | (simp [entryFrame, mkF, argsToLocals, Value.category]; done) | rfl
theorem pn_2 : plainName "java/util/Objects" = true := by first | (simp [plainName, overriddenIn]; done) | decide +kernel
def Qrm4 (Z : State) (a1 : Addr) (a2 : Addr) (h0 : Heap) (n0 : Nat) (v : Option Value) (h : Heap) (L : List Loc) : Prop := v = some (.ref a1) ∧ Fr n0 L ∧ h = h0
set_option maxRecDepth 65536 in
set_option maxHeartbeats 40000000 in
theorem rm4 (l : Launch) (Z : State) (a0 : Array Value) (hw : ∀ d ∈ tables_1, d.before a0 Z = true) (ws : List Jvm.Cond) (a1 : Addr) (a2 : Addr) (h0 : Heap) (n0 : Nat) (O0 : Old Z n0 h0) :
    MetFree l (⟨"java/util/Objects", "requireNonNull", "(Ljava/lang/Object;Ljava/lang/String;)Ljava/lang/Object;"⟩ : MethodName) (head1 (Jvm.Cond.code (⟨"java/util/Objects", "requireNonNull", "(Ljava/lang/Object;Ljava/lang/String;)Ljava/lang/Object;"⟩ : MethodName) jdk_31_method_11_code 2 (some (.object "java/lang/Object")) :: ws) ({ frames := 0, cells := 0, slots := 0, locals := 0 } : Room)) (fun a U => a = #[(.ref a1), (.ref a2)] ∧ Z.Warmed39 U.vm ∧ U.heap = h0) (fun _ _ _ _ _ => True) (fun _ U o U' => ∃ v L, o = .returned v ∧ Qrm4 Z a1 a2 h0 n0 v U'.heap L ∧ FrameEnd U o U' L ({ frames := 0, cells := 0, slots := 0, locals := 0 } : Room).cells ({ frames := 0, cells := 0, slots := 0, locals := 0 } : Room).slots) := by
  refine MetFree.of_bodySF (plainFor_of_name pn_2) hisR ?_
  intro p e s m args below meth c s₁ Bd hml0 hP hK
  obtain ⟨rfl, hZ, hh⟩ := hP
  have hx := Bd.exec
  have hby := Bd.bytes
  have hml : c.maxLocals = 2 := hml0
  have hown : s.vm.findClass "java/util/Objects" = some m.cls := findClass_of_methodNamed Bd.named
  have hnm := (name_of_methodNamed Bd.named Bd.method).1
  have X0 : Stand p l e ({ frames := 0, cells := 0, slots := 0, locals := 0 } : Room) s m #[(.ref a1), (.ref a2)] below meth c s₁ [] 0 0 := Stand.of_body Bd
  have e0 : s₁.heap = h0 := by rw [← hh, Bd.state]; rfl
  have N0 := Fr.nil n0
  have pre0 : ∀ t, Steps p.tables e below (s₁.setTop (mkF m 0 #[.val (.ref a1), .val (.ref a2)] [])) t → Steps p.tables e below (s₁.setTop (entryFrame m #[(.ref a1), (.ref a2)] 2)) t := fun t k => castTop (ef_4_RR m a1 a2) k
  obtain ⟨fs, hr, hrun, hended, hW, hsame⟩ := X0.leave (v := some (.ref a1)) (fun h => by rw [Bd.returns] at h; cases h)
  refine ⟨_, _, pre0 _ ?_, hrun, hended, _, _, rfl, ?_, ⟨_, rfl⟩, hW, hsame.mono (by decide) (by decide)⟩
  · show Steps p.tables e below (s₁.setTop (mkF m 0 #[.val (.ref a1), .val (.ref a2)] [])) _
    refine XS.aloadN X0.here hx rfl (hb hby d4_0) rfl rfl ?_
    refine XS.ifnonnullYes X0.here hx rfl (pc0 := 1) (pc' := 13) rfl (hb hby d4_1) rfl (by decide) (by decide) ?_
    refine XS.aloadN X0.here hx rfl (hb hby d4_13) rfl rfl ?_
    show Steps p.tables e below (s₁.setTop (mkF m 14 #[.val (.ref a1), .val (.ref a2)] [(.ref a1)])) _
    jvm_step X0.here [X0.here.top, hx, (hb hby d4_14), X0.method', Bd.returns, Value.isRef, FieldType.isReference]
    first | (intro acts; rw [hr _ acts rfl rfl rfl]) | rw [hr _ _ rfl rfl rfl]
    exact Steps.refl _
  · show Qrm4 Z a1 a2 h0 n0 _ s₁.heap _
    rw [e0]
    exact ⟨rfl, N0, rfl⟩
theorem pd_3 : parseMethodDescriptor "(Ljava/lang/Object;Ljava/lang/String;)Ljava/lang/Object;" = some ⟨[(.object "java/lang/Object"), (.object "java/lang/String")], some (.object "java/lang/Object")⟩ := by decide +kernel
theorem d1_10 : decode prog_12_method_1_code 10 = .ok (.pop, 1) := by decide +kernel
theorem d1_11 : decode prog_12_method_1_code 11 = .ok (.aload_n 2, 1) := by decide +kernel
theorem d1_12 : decode prog_12_method_1_code 12 = .ok (.ldc 15, 2) := by decide +kernel
theorem d1_14 : decode prog_12_method_1_code 14 = .ok (.invokestatic 9, 3) := by decide +kernel
theorem d1_17 : decode prog_12_method_1_code 17 = .ok (.pop, 1) := by decide +kernel
theorem d1_18 : decode prog_12_method_1_code 18 = .ok (.aload_n 3, 1) := by decide +kernel
theorem d1_19 : decode prog_12_method_1_code 19 = .ok (.ldc 17, 2) := by decide +kernel
theorem d1_21 : decode prog_12_method_1_code 21 = .ok (.invokestatic 9, 3) := by decide +kernel
theorem d1_24 : decode prog_12_method_1_code 24 = .ok (.pop, 1) := by decide +kernel
theorem d1_25 : decode prog_12_method_1_code 25 = .ok (.aload_n 0, 1) := by decide +kernel
theorem d1_26 : decode prog_12_method_1_code 26 = .ok (.aload_n 1, 1) := by decide +kernel
theorem d1_27 : decode prog_12_method_1_code 27 = .ok (.putfield 19, 3) := by decide +kernel
theorem d1_30 : decode prog_12_method_1_code 30 = .ok (.aload_n 0, 1) := by decide +kernel
theorem d1_31 : decode prog_12_method_1_code 31 = .ok (.aload_n 2, 1) := by decide +kernel
theorem d1_32 : decode prog_12_method_1_code 32 = .ok (.putfield 24, 3) := by decide +kernel
theorem d1_35 : decode prog_12_method_1_code 35 = .ok (.aload_n 0, 1) := by decide +kernel
theorem d1_36 : decode prog_12_method_1_code 36 = .ok (.aload_n 3, 1) := by decide +kernel
theorem d1_37 : decode prog_12_method_1_code 37 = .ok (.putfield 26, 3) := by decide +kernel
theorem d1_40 : decode prog_12_method_1_code 40 = .ok (.aload_n 0, 1) := by decide +kernel
theorem d1_41 : decode prog_12_method_1_code 41 = .ok (.lload 4, 2) := by decide +kernel
theorem d1_43 : decode prog_12_method_1_code 43 = .ok (.putfield 28, 3) := by decide +kernel
theorem d1_46 : decode prog_12_method_1_code 46 = .ok (.aload_n 0, 1) := by decide +kernel
theorem d1_47 : decode prog_12_method_1_code 47 = .ok (.iload 6, 2) := by decide +kernel
theorem d1_49 : decode prog_12_method_1_code 49 = .ok (.putfield 32, 3) := by decide +kernel
theorem d1_52 : decode prog_12_method_1_code 52 = .ok (.return_, 1) := by decide +kernel
theorem ef_1_RRRRJI (m : MethodId) (x0 : Addr) (x1 : Addr) (x2 : Addr) (x3 : Addr) (x4 : Int64) (x5 : Int32) : entryFrame m #[(.ref x0), (.ref x1), (.ref x2), (.ref x3), (.long x4), (.int x5)] 7 = mkF m 0 #[.val (.ref x0), .val (.ref x1), .val (.ref x2), .val (.ref x3), .val (.long x4), .second, .val (.int x5)] [] := by first | (simp [entryFrame, mkF, argsToLocals, Value.category]; done) | rfl
theorem pn_4 : plainName "com/example/runqueue/runqueue/Job" = true := by first | (simp [plainName, overriddenIn]; done) | decide +kernel
def Qrm1 (Z : State) (a1 : Addr) (a2 : Addr) (a3 : Addr) (a4 : Addr) (p5 : Int32) (h0 : Heap) (n0 : Nat) (v : Option Value) (h : Heap) (L : List Loc) : Prop := v = none ∧ Fr n0 L ∧ Keep h0 h [a1] ∧ Exa Z h a1 "com/example/runqueue/runqueue/Job" ∧ Fld Z h a1 "com/example/runqueue/runqueue/Job" "id" "Ljava/lang/String;" (.ref a2) ∧ Fld Z h a1 "com/example/runqueue/runqueue/Job" "name" "Ljava/lang/String;" (.ref a3) ∧ Fld Z h a1 "com/example/runqueue/runqueue/Job" "command" "Ljava/lang/String;" (.ref a4) ∧ Fld Z h a1 "com/example/runqueue/runqueue/Job" "timeoutMillis" "J" (.long (0 : Int64)) ∧ Fld Z h a1 "com/example/runqueue/runqueue/Job" "maxAttempts" "I" (.int p5)
set_option maxRecDepth 65536 in
set_option maxHeartbeats 40000000 in
theorem rm1 (l : Launch) (Z : State) (a0 : Array Value) (hw : ∀ d ∈ tables_1, d.before a0 Z = true) (ws : List Jvm.Cond) (a1 : Addr) (a2 : Addr) (a3 : Addr) (a4 : Addr) (p5 : Int32) (h0 : Heap) (n0 : Nat) (O0 : Old Z n0 h0) (E_13 : Exa Z h0 a1 "com/example/runqueue/runqueue/Job") (F_14 : Fld Z h0 a1 "com/example/runqueue/runqueue/Job" "id" "Ljava/lang/String;" .null) (g_a1 : n0 ≤ a1) (F_18 : Fld Z h0 a1 "com/example/runqueue/runqueue/Job" "name" "Ljava/lang/String;" .null) (F_19 : Fld Z h0 a1 "com/example/runqueue/runqueue/Job" "command" "Ljava/lang/String;" .null) (F_20 : Fld Z h0 a1 "com/example/runqueue/runqueue/Job" "timeoutMillis" "J" (.long (0 : Int64))) (F_21 : Fld Z h0 a1 "com/example/runqueue/runqueue/Job" "maxAttempts" "I" (.int (0 : Int32))) :
    MetFree l (⟨"com/example/runqueue/runqueue/Job", "<init>", "(Ljava/lang/String;Ljava/lang/String;Ljava/lang/String;JI)V"⟩ : MethodName) (head1 (Jvm.Cond.code (⟨"com/example/runqueue/runqueue/Job", "<init>", "(Ljava/lang/String;Ljava/lang/String;Ljava/lang/String;JI)V"⟩ : MethodName) prog_12_method_1_code 7 none :: ws) ({ frames := 2, cells := 6, slots := 64, locals := 24 } : Room)) (fun a U => a = #[(.ref a1), (.ref a2), (.ref a3), (.ref a4), (.long (0 : Int64)), (.int p5)] ∧ Z.Warmed39 U.vm ∧ U.heap = h0) (fun _ _ _ _ _ => True) (fun _ U o U' => ∃ v L, o = .returned v ∧ Qrm1 Z a1 a2 a3 a4 p5 h0 n0 v U'.heap L ∧ ReturnedEndW U o U' L ({ frames := 2, cells := 6, slots := 64, locals := 24 } : Room).cells ({ frames := 2, cells := 6, slots := 64, locals := 24 } : Room).slots) := by
  refine MetFree.of_bodySF (plainFor_of_name pn_4) hisR ?_
  intro p e s m args below meth c s₁ Bd hml0 hP hK
  obtain ⟨rfl, hZ, hh⟩ := hP
  have hx := Bd.exec
  have hby := Bd.bytes
  have hml : c.maxLocals = 7 := hml0
  have hown : s.vm.findClass "com/example/runqueue/runqueue/Job" = some m.cls := findClass_of_methodNamed Bd.named
  have hnm := (name_of_methodNamed Bd.named Bd.method).1
  have X0 : Stand p l e ({ frames := 2, cells := 6, slots := 64, locals := 24 } : Room) s m #[(.ref a1), (.ref a2), (.ref a3), (.ref a4), (.long (0 : Int64)), (.int p5)] below meth c s₁ [] 0 0 := Stand.of_body Bd
  have e0 : s₁.heap = h0 := by rw [← hh, Bd.state]; rfl
  have N0 := Fr.nil n0
  have pre0 : ∀ t, Steps p.tables e below (s₁.setTop (mkF m 0 #[.val (.ref a1), .val (.ref a2), .val (.ref a3), .val (.ref a4), .val (.long (0 : Int64)), .second, .val (.int p5)] [])) t → Steps p.tables e below (s₁.setTop (entryFrame m #[(.ref a1), (.ref a2), (.ref a3), (.ref a4), (.long (0 : Int64)), (.int p5)] 7)) t := fun t k => castTop (ef_1_RRRRJI m a1 a2 a3 a4 (0 : Int64) p5) k
  have hS0 : s.Since s.vm 0 := (State.WarmedH.refl s).since 0
  obtain ⟨_, _, ⟨T6, L6, k6, n6⟩, -, X6, ⟨Lc6, hQ6, l6, y6, z6⟩, st6⟩ := X0.specialBack hx (y := (⟨"java/lang/Record", "<init>", "()V"⟩ : MethodName)) rfl hown (mvT hZ (hw _ (List.mem_of_getElem? (i := 18) rfl))) (mvT hZ (hw _ (List.mem_of_getElem? (i := 19) rfl))) (mvT hZ (hw _ (List.mem_of_getElem? (i := 22) rfl))) (by decide) (backOf (W := 0) (rm2 l Z a0 hw [] a1 h0 n0 O0 ) hZ (hw _ (List.mem_of_getElem? (i := 22) rfl)) (hw _ (List.mem_of_getElem? (i := 21) rfl)) (by decide) (by decide)) (g := (mkF m 1 #[.val (.ref a1), .val (.ref a2), .val (.ref a3), .val (.ref a4), .val (.long (0 : Int64)), .second, .val (.int p5)] [(.ref a1)])) rfl (by rw [hml]; rfl) (Steps.refl _) (a := a1) (argsL := []) (rest := []) (lenOf pd_1 rfl) rfl (by show 2 * 0 + _ ≤ _; exact Nat.le_of_eq rfl) (hb hby d1_1) (fun _ _ => ⟨rfl, e0, (by decide : 0 + 0 ≤ _), (by decide : 0 + 0 ≤ _)⟩)
  dsimp only [Pt.U, Pt.locs, Pt.cells, Pt.slots] at X6 l6 y6 z6 st6 hQ6
  subst l6 y6 z6
  obtain ⟨rfl, Nq6, e6⟩ := hQ6
  have N6 := Fr.app N0 Nq6
  obtain ⟨b7, T7, h7, k7, X7, e7, E7, hS7, hk7, hZ7, hown7, st7⟩ := ldcS (s := s) (vm0 := s.vm) X6 hx hZ hown (hw _ (List.mem_of_getElem? (i := 26) rfl)) (own_wS hw) e6 hS0 (Nat.zero_le _) (g := (mkF m 5 #[.val (.ref a1), .val (.ref a2), .val (.ref a3), .val (.ref a4), .val (.long (0 : Int64)), .second, .val (.int p5)] [(.ref a2)])) rfl (hb hby d1_5) (n := 8) (by decide) (by decide) (by decide) (by decide)
  have K7 : Keep h0 h7 [a1] := (Keep.refl h0 [a1]).ext E7
  have O7 : Old Z n0 h7 := O0.ext E7
  obtain ⟨_, _, ⟨T8, L8, k8, n8⟩, -, X8, ⟨Lc8, hQ8, l8, y8, z8⟩, st8⟩ := Jvm.LawKit.callS X7 hx (y := (⟨"java/util/Objects", "requireNonNull", "(Ljava/lang/Object;Ljava/lang/String;)Ljava/lang/Object;"⟩ : MethodName)) hown7 (mvT hZ7 (hw _ (List.mem_of_getElem? (i := 27) rfl))) (mvT hZ7 (hw _ (List.mem_of_getElem? (i := 28) rfl))) (mvT hZ7 (hw _ (List.mem_of_getElem? (i := 29) rfl))) (mvT hZ7 (hw _ (List.mem_of_getElem? (i := 30) rfl))) (by decide) (backOf (W := 0) (rm4 l Z a0 hw [] a2 b7 h7 n0 O7 ) hZ7 (hw _ (List.mem_of_getElem? (i := 30) rfl)) (hw _ (List.mem_of_getElem? (i := 29) rfl)) (by decide) (by decide)) (g := (mkF m 7 #[.val (.ref a1), .val (.ref a2), .val (.ref a3), .val (.ref a4), .val (.long (0 : Int64)), .second, .val (.int p5)] [(.ref b7), (.ref a2)])) rfl (by rw [hml]; rfl) (argsL := [(.ref a2), (.ref b7)]) (rest := []) (lenOf pd_3 rfl) rfl (by show 2 * 0 + _ ≤ _; exact Nat.le_of_eq rfl) (hb hby d1_7) (fun _ _ => ⟨rfl, e7, (by decide : 2 + 0 ≤ _), (by decide : 12 + 0 ≤ _)⟩)
  dsimp only [Pt.U, Pt.locs, Pt.cells, Pt.slots] at X8 l8 y8 z8 st8 hQ8
  subst l8 y8 z8
  obtain ⟨rfl, Nq8, e8⟩ := hQ8
  have N8 := Fr.app N6 Nq8
  obtain ⟨b9, T9, h9, k9, X9, e9, E9, hS9, hk9, hZ9, hown9, st9⟩ := ldcS (s := s) (vm0 := T7.vm) X8 hx hZ7 hown7 (hw _ (List.mem_of_getElem? (i := 31) rfl)) (own_wS hw) e8 hS7 hk7 (g := (mkF m 12 #[.val (.ref a1), .val (.ref a2), .val (.ref a3), .val (.ref a4), .val (.long (0 : Int64)), .second, .val (.int p5)] [(.ref a3)])) rfl (hb hby d1_12) (n := 16) (by decide) (by decide) (by decide) (by decide)
  have K9 : Keep h0 h9 [a1] := K7.ext E9
  have O9 : Old Z n0 h9 := O7.ext E9
  obtain ⟨_, _, ⟨T10, L10, k10, n10⟩, -, X10, ⟨Lc10, hQ10, l10, y10, z10⟩, st10⟩ := Jvm.LawKit.callS X9 hx (y := (⟨"java/util/Objects", "requireNonNull", "(Ljava/lang/Object;Ljava/lang/String;)Ljava/lang/Object;"⟩ : MethodName)) hown9 (mvT hZ9 (hw _ (List.mem_of_getElem? (i := 27) rfl))) (mvT hZ9 (hw _ (List.mem_of_getElem? (i := 28) rfl))) (mvT hZ9 (hw _ (List.mem_of_getElem? (i := 29) rfl))) (mvT hZ9 (hw _ (List.mem_of_getElem? (i := 30) rfl))) (by decide) (backOf (W := 0) (rm4 l Z a0 hw [] a3 b9 h9 n0 O9 ) hZ9 (hw _ (List.mem_of_getElem? (i := 30) rfl)) (hw _ (List.mem_of_getElem? (i := 29) rfl)) (by decide) (by decide)) (g := (mkF m 14 #[.val (.ref a1), .val (.ref a2), .val (.ref a3), .val (.ref a4), .val (.long (0 : Int64)), .second, .val (.int p5)] [(.ref b9), (.ref a3)])) rfl (by rw [hml]; rfl) (argsL := [(.ref a3), (.ref b9)]) (rest := []) (lenOf pd_3 rfl) rfl (by show 2 * 0 + _ ≤ _; exact Nat.le_of_eq rfl) (hb hby d1_14) (fun _ _ => ⟨rfl, e9, (by decide : 4 + 0 ≤ _), (by decide : 32 + 0 ≤ _)⟩)
  dsimp only [Pt.U, Pt.locs, Pt.cells, Pt.slots] at X10 l10 y10 z10 st10 hQ10
  subst l10 y10 z10
  obtain ⟨rfl, Nq10, e10⟩ := hQ10
  have N10 := Fr.app N8 Nq10
  obtain ⟨b11, T11, h11, k11, X11, e11, E11, hS11, hk11, hZ11, hown11, st11⟩ := ldcS (s := s) (vm0 := T9.vm) X10 hx hZ9 hown9 (hw _ (List.mem_of_getElem? (i := 32) rfl)) (own_wS hw) e10 hS9 hk9 (g := (mkF m 19 #[.val (.ref a1), .val (.ref a2), .val (.ref a3), .val (.ref a4), .val (.long (0 : Int64)), .second, .val (.int p5)] [(.ref a4)])) rfl (hb hby d1_19) (n := 28) (by decide) (by decide) (by decide) (by decide)
  have K11 : Keep h0 h11 [a1] := K9.ext E11
  have O11 : Old Z n0 h11 := O9.ext E11
  obtain ⟨_, _, ⟨T12, L12, k12, n12⟩, -, X12, ⟨Lc12, hQ12, l12, y12, z12⟩, st12⟩ := Jvm.LawKit.callS X11 hx (y := (⟨"java/util/Objects", "requireNonNull", "(Ljava/lang/Object;Ljava/lang/String;)Ljava/lang/Object;"⟩ : MethodName)) hown11 (mvT hZ11 (hw _ (List.mem_of_getElem? (i := 27) rfl))) (mvT hZ11 (hw _ (List.mem_of_getElem? (i := 28) rfl))) (mvT hZ11 (hw _ (List.mem_of_getElem? (i := 29) rfl))) (mvT hZ11 (hw _ (List.mem_of_getElem? (i := 30) rfl))) (by decide) (backOf (W := 0) (rm4 l Z a0 hw [] a4 b11 h11 n0 O11 ) hZ11 (hw _ (List.mem_of_getElem? (i := 30) rfl)) (hw _ (List.mem_of_getElem? (i := 29) rfl)) (by decide) (by decide)) (g := (mkF m 21 #[.val (.ref a1), .val (.ref a2), .val (.ref a3), .val (.ref a4), .val (.long (0 : Int64)), .second, .val (.int p5)] [(.ref b11), (.ref a4)])) rfl (by rw [hml]; rfl) (argsL := [(.ref a4), (.ref b11)]) (rest := []) (lenOf pd_3 rfl) rfl (by show 2 * 0 + _ ≤ _; exact Nat.le_of_eq rfl) (hb hby d1_21) (fun _ _ => ⟨rfl, e11, (by decide : 6 + 0 ≤ _), (by decide : 64 + 0 ≤ _)⟩)
  dsimp only [Pt.U, Pt.locs, Pt.cells, Pt.slots] at X12 l12 y12 z12 st12 hQ12
  subst l12 y12 z12
  obtain ⟨rfl, Nq12, e12⟩ := hQ12
  have N12 := Fr.app N10 Nq12
  have f15 : Fld Z h11 a1 "com/example/runqueue/runqueue/Job" "id" "Ljava/lang/String;" .null := (((F_14.ext E7).ext E9).ext E11)
  have f16 : Exa Z h11 a1 "com/example/runqueue/runqueue/Job" := (((E_13.ext E7).ext E9).ext E11)
  obtain ⟨T17, h17, X17, e17, W17, st17⟩ := putF X12 hx hZ11 hown11 (host := "") (Or.inl (hw _ (List.mem_of_getElem? (i := 33) rfl))) Via.refl e12 f15 f16 (Or.inr ⟨(hw _ (List.mem_of_getElem? (i := 34) rfl)), rfl, hnm⟩) (hw _ (List.mem_of_getElem? (i := 5) rfl)) (ty := (.object "java/lang/String")) (by decide) rfl rfl (g := (mkF m 27 #[.val (.ref a1), .val (.ref a2), .val (.ref a3), .val (.ref a4), .val (.long (0 : Int64)), .second, .val (.int p5)] [(.ref a2), (.ref a1)])) rfl rfl (hb hby d1_27)
  have K17 : Keep h0 h17 [a1] := K11.wr W17 (Or.inl (List.mem_of_getElem? (i := 0) rfl))
  have O17 : Old Z n0 h17 := O11.wr W17 g_a1
  have N17 := Fr.snoc X17 N12 g_a1
  have Fw17 : Fld Z h17 a1 "com/example/runqueue/runqueue/Job" "id" "Ljava/lang/String;" (.ref a2) := f15.same W17
  have f22 : Fld Z h17 a1 "com/example/runqueue/runqueue/Job" "name" "Ljava/lang/String;" .null := ((((F_18.ext E7).ext E9).ext E11).other W17 (Or.inr (slot_ne (Or.inr (hw _ (List.mem_of_getElem? (i := 36) rfl))) (Or.inr (hw _ (List.mem_of_getElem? (i := 34) rfl))) (by decide) (t := (.object "java/lang/String")) (t' := (.object "java/lang/String")) (by decide) (by decide))))
  have f23 : Exa Z h17 a1 "com/example/runqueue/runqueue/Job" := (f16.wr W17)
  obtain ⟨T24, h24, X24, e24, W24, st24⟩ := putF X17 hx hZ11 hown11 (host := "") (Or.inl (hw _ (List.mem_of_getElem? (i := 35) rfl))) Via.refl e17 f22 f23 (Or.inr ⟨(hw _ (List.mem_of_getElem? (i := 36) rfl)), rfl, hnm⟩) (hw _ (List.mem_of_getElem? (i := 5) rfl)) (ty := (.object "java/lang/String")) (by decide) rfl rfl (g := (mkF m 32 #[.val (.ref a1), .val (.ref a2), .val (.ref a3), .val (.ref a4), .val (.long (0 : Int64)), .second, .val (.int p5)] [(.ref a3), (.ref a1)])) rfl rfl (hb hby d1_32)
  have K24 : Keep h0 h24 [a1] := K17.wr W24 (Or.inl (List.mem_of_getElem? (i := 0) rfl))
  have O24 : Old Z n0 h24 := O17.wr W24 g_a1
  have N24 := Fr.snoc X24 N17 g_a1
  have Fw24 : Fld Z h24 a1 "com/example/runqueue/runqueue/Job" "name" "Ljava/lang/String;" (.ref a3) := f22.same W24
  have f25 : Fld Z h24 a1 "com/example/runqueue/runqueue/Job" "command" "Ljava/lang/String;" .null := (((((F_19.ext E7).ext E9).ext E11).other W17 (Or.inr (slot_ne (Or.inr (hw _ (List.mem_of_getElem? (i := 38) rfl))) (Or.inr (hw _ (List.mem_of_getElem? (i := 34) rfl))) (by decide) (t := (.object "java/lang/String")) (t' := (.object "java/lang/String")) (by decide) (by decide)))).other W24 (Or.inr (slot_ne (Or.inr (hw _ (List.mem_of_getElem? (i := 38) rfl))) (Or.inr (hw _ (List.mem_of_getElem? (i := 36) rfl))) (by decide) (t := (.object "java/lang/String")) (t' := (.object "java/lang/String")) (by decide) (by decide))))
  have f26 : Exa Z h24 a1 "com/example/runqueue/runqueue/Job" := (f23.wr W24)
  obtain ⟨T27, h27, X27, e27, W27, st27⟩ := putF X24 hx hZ11 hown11 (host := "") (Or.inl (hw _ (List.mem_of_getElem? (i := 37) rfl))) Via.refl e24 f25 f26 (Or.inr ⟨(hw _ (List.mem_of_getElem? (i := 38) rfl)), rfl, hnm⟩) (hw _ (List.mem_of_getElem? (i := 5) rfl)) (ty := (.object "java/lang/String")) (by decide) rfl rfl (g := (mkF m 37 #[.val (.ref a1), .val (.ref a2), .val (.ref a3), .val (.ref a4), .val (.long (0 : Int64)), .second, .val (.int p5)] [(.ref a4), (.ref a1)])) rfl rfl (hb hby d1_37)
  have K27 : Keep h0 h27 [a1] := K24.wr W27 (Or.inl (List.mem_of_getElem? (i := 0) rfl))
  have O27 : Old Z n0 h27 := O24.wr W27 g_a1
  have N27 := Fr.snoc X27 N24 g_a1
  have Fw27 : Fld Z h27 a1 "com/example/runqueue/runqueue/Job" "command" "Ljava/lang/String;" (.ref a4) := f25.same W27
  have f28 : Fld Z h27 a1 "com/example/runqueue/runqueue/Job" "timeoutMillis" "J" (.long (0 : Int64)) := ((((((F_20.ext E7).ext E9).ext E11).other W17 (Or.inr (slot_ne (Or.inr (hw _ (List.mem_of_getElem? (i := 40) rfl))) (Or.inr (hw _ (List.mem_of_getElem? (i := 34) rfl))) (by decide) (t := .long) (t' := (.object "java/lang/String")) (by decide) (by decide)))).other W24 (Or.inr (slot_ne (Or.inr (hw _ (List.mem_of_getElem? (i := 40) rfl))) (Or.inr (hw _ (List.mem_of_getElem? (i := 36) rfl))) (by decide) (t := .long) (t' := (.object "java/lang/String")) (by decide) (by decide)))).other W27 (Or.inr (slot_ne (Or.inr (hw _ (List.mem_of_getElem? (i := 40) rfl))) (Or.inr (hw _ (List.mem_of_getElem? (i := 38) rfl))) (by decide) (t := .long) (t' := (.object "java/lang/String")) (by decide) (by decide))))
  have f29 : Exa Z h27 a1 "com/example/runqueue/runqueue/Job" := (f26.wr W27)
  obtain ⟨T30, h30, X30, e30, W30, st30⟩ := putF X27 hx hZ11 hown11 (host := "") (Or.inl (hw _ (List.mem_of_getElem? (i := 39) rfl))) Via.refl e27 f28 f29 (Or.inr ⟨(hw _ (List.mem_of_getElem? (i := 40) rfl)), rfl, hnm⟩) (hw _ (List.mem_of_getElem? (i := 5) rfl)) (ty := .long) (by decide) rfl rfl (g := (mkF m 43 #[.val (.ref a1), .val (.ref a2), .val (.ref a3), .val (.ref a4), .val (.long (0 : Int64)), .second, .val (.int p5)] [(.long (0 : Int64)), (.ref a1)])) rfl rfl (hb hby d1_43)
  have K30 : Keep h0 h30 [a1] := K27.wr W30 (Or.inl (List.mem_of_getElem? (i := 0) rfl))
  have O30 : Old Z n0 h30 := O27.wr W30 g_a1
  have N30 := Fr.snoc X30 N27 g_a1
  have Fw30 : Fld Z h30 a1 "com/example/runqueue/runqueue/Job" "timeoutMillis" "J" (.long (0 : Int64)) := f28.same W30
  have f31 : Fld Z h30 a1 "com/example/runqueue/runqueue/Job" "maxAttempts" "I" (.int (0 : Int32)) := (((((((F_21.ext E7).ext E9).ext E11).other W17 (Or.inr (slot_ne (Or.inr (hw _ (List.mem_of_getElem? (i := 42) rfl))) (Or.inr (hw _ (List.mem_of_getElem? (i := 34) rfl))) (by decide) (t := .int) (t' := (.object "java/lang/String")) (by decide) (by decide)))).other W24 (Or.inr (slot_ne (Or.inr (hw _ (List.mem_of_getElem? (i := 42) rfl))) (Or.inr (hw _ (List.mem_of_getElem? (i := 36) rfl))) (by decide) (t := .int) (t' := (.object "java/lang/String")) (by decide) (by decide)))).other W27 (Or.inr (slot_ne (Or.inr (hw _ (List.mem_of_getElem? (i := 42) rfl))) (Or.inr (hw _ (List.mem_of_getElem? (i := 38) rfl))) (by decide) (t := .int) (t' := (.object "java/lang/String")) (by decide) (by decide)))).other W30 (Or.inr (slot_ne (Or.inr (hw _ (List.mem_of_getElem? (i := 42) rfl))) (Or.inr (hw _ (List.mem_of_getElem? (i := 40) rfl))) (by decide) (t := .int) (t' := .long) (by decide) (by decide))))
  have f32 : Exa Z h30 a1 "com/example/runqueue/runqueue/Job" := (f29.wr W30)
  obtain ⟨T33, h33, X33, e33, W33, st33⟩ := putF X30 hx hZ11 hown11 (host := "") (Or.inl (hw _ (List.mem_of_getElem? (i := 41) rfl))) Via.refl e30 f31 f32 (Or.inr ⟨(hw _ (List.mem_of_getElem? (i := 42) rfl)), rfl, hnm⟩) (hw _ (List.mem_of_getElem? (i := 5) rfl)) (ty := .int) (by decide) rfl rfl (g := (mkF m 49 #[.val (.ref a1), .val (.ref a2), .val (.ref a3), .val (.ref a4), .val (.long (0 : Int64)), .second, .val (.int p5)] [(.int p5), (.ref a1)])) rfl rfl (hb hby d1_49)
  have K33 : Keep h0 h33 [a1] := K30.wr W33 (Or.inl (List.mem_of_getElem? (i := 0) rfl))
  have O33 : Old Z n0 h33 := O30.wr W33 g_a1
  have N33 := Fr.snoc X33 N30 g_a1
  have Fw33 : Fld Z h33 a1 "com/example/runqueue/runqueue/Job" "maxAttempts" "I" (.int p5) := f31.same W33
  have f34 : Exa Z h33 a1 "com/example/runqueue/runqueue/Job" := (f32.wr W33)
  have f35 : Fld Z h33 a1 "com/example/runqueue/runqueue/Job" "id" "Ljava/lang/String;" (.ref a2) := ((((Fw17.other W24 (Or.inr (slot_ne (Or.inr (hw _ (List.mem_of_getElem? (i := 34) rfl))) (Or.inr (hw _ (List.mem_of_getElem? (i := 36) rfl))) (by decide) (t := (.object "java/lang/String")) (t' := (.object "java/lang/String")) (by decide) (by decide)))).other W27 (Or.inr (slot_ne (Or.inr (hw _ (List.mem_of_getElem? (i := 34) rfl))) (Or.inr (hw _ (List.mem_of_getElem? (i := 38) rfl))) (by decide) (t := (.object "java/lang/String")) (t' := (.object "java/lang/String")) (by decide) (by decide)))).other W30 (Or.inr (slot_ne (Or.inr (hw _ (List.mem_of_getElem? (i := 34) rfl))) (Or.inr (hw _ (List.mem_of_getElem? (i := 40) rfl))) (by decide) (t := (.object "java/lang/String")) (t' := .long) (by decide) (by decide)))).other W33 (Or.inr (slot_ne (Or.inr (hw _ (List.mem_of_getElem? (i := 34) rfl))) (Or.inr (hw _ (List.mem_of_getElem? (i := 42) rfl))) (by decide) (t := (.object "java/lang/String")) (t' := .int) (by decide) (by decide))))
  have f36 : Fld Z h33 a1 "com/example/runqueue/runqueue/Job" "name" "Ljava/lang/String;" (.ref a3) := (((Fw24.other W27 (Or.inr (slot_ne (Or.inr (hw _ (List.mem_of_getElem? (i := 36) rfl))) (Or.inr (hw _ (List.mem_of_getElem? (i := 38) rfl))) (by decide) (t := (.object "java/lang/String")) (t' := (.object "java/lang/String")) (by decide) (by decide)))).other W30 (Or.inr (slot_ne (Or.inr (hw _ (List.mem_of_getElem? (i := 36) rfl))) (Or.inr (hw _ (List.mem_of_getElem? (i := 40) rfl))) (by decide) (t := (.object "java/lang/String")) (t' := .long) (by decide) (by decide)))).other W33 (Or.inr (slot_ne (Or.inr (hw _ (List.mem_of_getElem? (i := 36) rfl))) (Or.inr (hw _ (List.mem_of_getElem? (i := 42) rfl))) (by decide) (t := (.object "java/lang/String")) (t' := .int) (by decide) (by decide))))
  have f37 : Fld Z h33 a1 "com/example/runqueue/runqueue/Job" "command" "Ljava/lang/String;" (.ref a4) := ((Fw27.other W30 (Or.inr (slot_ne (Or.inr (hw _ (List.mem_of_getElem? (i := 38) rfl))) (Or.inr (hw _ (List.mem_of_getElem? (i := 40) rfl))) (by decide) (t := (.object "java/lang/String")) (t' := .long) (by decide) (by decide)))).other W33 (Or.inr (slot_ne (Or.inr (hw _ (List.mem_of_getElem? (i := 38) rfl))) (Or.inr (hw _ (List.mem_of_getElem? (i := 42) rfl))) (by decide) (t := (.object "java/lang/String")) (t' := .int) (by decide) (by decide))))
  have f38 : Fld Z h33 a1 "com/example/runqueue/runqueue/Job" "timeoutMillis" "J" (.long (0 : Int64)) := (Fw30.other W33 (Or.inr (slot_ne (Or.inr (hw _ (List.mem_of_getElem? (i := 40) rfl))) (Or.inr (hw _ (List.mem_of_getElem? (i := 42) rfl))) (by decide) (t := .long) (t' := .int) (by decide) (by decide))))
  obtain ⟨fs, hr, hrun, hended, hREW⟩ := X33.leaveW (s := s) hS11 (by rw [e33]; exact (Nat.le_trans (Nat.le_trans (Nat.le_trans (Nat.le_trans (Nat.le_trans hk11 (Keep.of_wr W17).1) (Keep.of_wr W24).1) (Keep.of_wr W27).1) (Keep.of_wr W30).1) (Keep.of_wr W33).1)) (v := none) (fun _ => rfl)
  refine ⟨_, _, pre0 _ ?_, hrun, hended, _, _, rfl, ?_, hREW.1, hREW.2.1, hREW.2.2.1, hREW.2.2.2.mono (by decide) (by decide)⟩
  · show Steps p.tables e below (s₁.setTop (mkF m 0 #[.val (.ref a1), .val (.ref a2), .val (.ref a3), .val (.ref a4), .val (.long (0 : Int64)), .second, .val (.int p5)] [])) _
    refine XS.aloadN X0.here hx rfl (hb hby d1_0) rfl rfl ?_
    show Steps p.tables e below (s₁.setTop (mkF m 1 #[.val (.ref a1), .val (.ref a2), .val (.ref a3), .val (.ref a4), .val (.long (0 : Int64)), .second, .val (.int p5)] [(.ref a1)])) _
    refine st6.trans ?_
    show Steps p.tables e below (T6.setTop (mkF m 4 #[.val (.ref a1), .val (.ref a2), .val (.ref a3), .val (.ref a4), .val (.long (0 : Int64)), .second, .val (.int p5)] [])) _
    refine XS.aloadN X6.here hx rfl (hb hby d1_4) rfl rfl ?_
    refine st7 _ ?_
    show Steps p.tables e below (T7.setTop (mkF m 7 #[.val (.ref a1), .val (.ref a2), .val (.ref a3), .val (.ref a4), .val (.long (0 : Int64)), .second, .val (.int p5)] [(.ref b7), (.ref a2)])) _
    refine st8 _ ?_
    show Steps p.tables e below (T8.setTop (mkF m 10 #[.val (.ref a1), .val (.ref a2), .val (.ref a3), .val (.ref a4), .val (.long (0 : Int64)), .second, .val (.int p5)] [(.ref a2)])) _
    refine XS.pop X8.here hx rfl (hb hby d1_10) rfl rfl ?_
    refine XS.aloadN X8.here hx rfl (hb hby d1_11) rfl rfl ?_
    refine st9 _ ?_
    show Steps p.tables e below (T9.setTop (mkF m 14 #[.val (.ref a1), .val (.ref a2), .val (.ref a3), .val (.ref a4), .val (.long (0 : Int64)), .second, .val (.int p5)] [(.ref b9), (.ref a3)])) _
    refine st10 _ ?_
    show Steps p.tables e below (T10.setTop (mkF m 17 #[.val (.ref a1), .val (.ref a2), .val (.ref a3), .val (.ref a4), .val (.long (0 : Int64)), .second, .val (.int p5)] [(.ref a3)])) _
    refine XS.pop X10.here hx rfl (hb hby d1_17) rfl rfl ?_
    refine XS.aloadN X10.here hx rfl (hb hby d1_18) rfl rfl ?_
    refine st11 _ ?_
    show Steps p.tables e below (T11.setTop (mkF m 21 #[.val (.ref a1), .val (.ref a2), .val (.ref a3), .val (.ref a4), .val (.long (0 : Int64)), .second, .val (.int p5)] [(.ref b11), (.ref a4)])) _
    refine st12 _ ?_
    show Steps p.tables e below (T12.setTop (mkF m 24 #[.val (.ref a1), .val (.ref a2), .val (.ref a3), .val (.ref a4), .val (.long (0 : Int64)), .second, .val (.int p5)] [(.ref a4)])) _
    refine XS.pop X12.here hx rfl (hb hby d1_24) rfl rfl ?_
    refine XS.aloadN X12.here hx rfl (hb hby d1_25) rfl rfl ?_
    refine XS.aloadN X12.here hx rfl (hb hby d1_26) rfl rfl ?_
    show Steps p.tables e below (T12.setTop (mkF m 27 #[.val (.ref a1), .val (.ref a2), .val (.ref a3), .val (.ref a4), .val (.long (0 : Int64)), .second, .val (.int p5)] [(.ref a2), (.ref a1)])) _
    refine st17 _ ?_
    show Steps p.tables e below (T17.setTop (mkF m 30 #[.val (.ref a1), .val (.ref a2), .val (.ref a3), .val (.ref a4), .val (.long (0 : Int64)), .second, .val (.int p5)] [])) _
    refine XS.aloadN X17.here hx rfl (hb hby d1_30) rfl rfl ?_
    refine XS.aloadN X17.here hx rfl (hb hby d1_31) rfl rfl ?_
    show Steps p.tables e below (T17.setTop (mkF m 32 #[.val (.ref a1), .val (.ref a2), .val (.ref a3), .val (.ref a4), .val (.long (0 : Int64)), .second, .val (.int p5)] [(.ref a3), (.ref a1)])) _
    refine st24 _ ?_
    show Steps p.tables e below (T24.setTop (mkF m 35 #[.val (.ref a1), .val (.ref a2), .val (.ref a3), .val (.ref a4), .val (.long (0 : Int64)), .second, .val (.int p5)] [])) _
    refine XS.aloadN X24.here hx rfl (hb hby d1_35) rfl rfl ?_
    refine XS.aloadN X24.here hx rfl (hb hby d1_36) rfl rfl ?_
    show Steps p.tables e below (T24.setTop (mkF m 37 #[.val (.ref a1), .val (.ref a2), .val (.ref a3), .val (.ref a4), .val (.long (0 : Int64)), .second, .val (.int p5)] [(.ref a4), (.ref a1)])) _
    refine st27 _ ?_
    show Steps p.tables e below (T27.setTop (mkF m 40 #[.val (.ref a1), .val (.ref a2), .val (.ref a3), .val (.ref a4), .val (.long (0 : Int64)), .second, .val (.int p5)] [])) _
    refine XS.aloadN X27.here hx rfl (hb hby d1_40) rfl rfl ?_
    refine XS.lload X27.here hx rfl (hb hby d1_41) rfl ?_
    show Steps p.tables e below (T27.setTop (mkF m 43 #[.val (.ref a1), .val (.ref a2), .val (.ref a3), .val (.ref a4), .val (.long (0 : Int64)), .second, .val (.int p5)] [(.long (0 : Int64)), (.ref a1)])) _
    refine st30 _ ?_
    show Steps p.tables e below (T30.setTop (mkF m 46 #[.val (.ref a1), .val (.ref a2), .val (.ref a3), .val (.ref a4), .val (.long (0 : Int64)), .second, .val (.int p5)] [])) _
    refine XS.aloadN X30.here hx rfl (hb hby d1_46) rfl rfl ?_
    refine XS.iload X30.here hx rfl (hb hby d1_47) rfl ?_
    show Steps p.tables e below (T30.setTop (mkF m 49 #[.val (.ref a1), .val (.ref a2), .val (.ref a3), .val (.ref a4), .val (.long (0 : Int64)), .second, .val (.int p5)] [(.int p5), (.ref a1)])) _
    refine st33 _ ?_
    show Steps p.tables e below (T33.setTop (mkF m 52 #[.val (.ref a1), .val (.ref a2), .val (.ref a3), .val (.ref a4), .val (.long (0 : Int64)), .second, .val (.int p5)] [])) _
    exact X33.returnOut hx Bd.returns (hb hby d1_52) hr
  · show Qrm1 Z a1 a2 a3 a4 p5 h0 n0 _ T33.heap _
    rw [e33]
    exact ⟨rfl, N33, K33, f34, f35, f36, f37, f38, Fw33⟩
theorem pd_5 : parseMethodDescriptor "(Ljava/lang/String;Ljava/lang/String;Ljava/lang/String;JI)V" = some ⟨[(.object "java/lang/String"), (.object "java/lang/String"), (.object "java/lang/String"), .long, .int], none⟩ := by decide +kernel
theorem d5_0 : decode prog_28_method_1_code 0 = .ok (.aload_n 0, 1) := by decide +kernel
theorem d5_1 : decode prog_28_method_1_code 1 = .ok (.invokespecial 1, 3) := by decide +kernel
theorem d5_4 : decode prog_28_method_1_code 4 = .ok (.aload_n 0, 1) := by decide +kernel
theorem d5_5 : decode prog_28_method_1_code 5 = .ok (.aload_n 1, 1) := by decide +kernel
theorem d5_6 : decode prog_28_method_1_code 6 = .ok (.putfield 7, 3) := by decide +kernel
theorem d5_9 : decode prog_28_method_1_code 9 = .ok (.aload_n 0, 1) := by decide +kernel
theorem d5_10 : decode prog_28_method_1_code 10 = .ok (.aload_n 2, 1) := by decide +kernel
theorem d5_11 : decode prog_28_method_1_code 11 = .ok (.putfield 13, 3) := by decide +kernel
theorem d5_14 : decode prog_28_method_1_code 14 = .ok (.aload_n 0, 1) := by decide +kernel
theorem d5_15 : decode prog_28_method_1_code 15 = .ok (.iload_n 3, 1) := by decide +kernel
theorem d5_16 : decode prog_28_method_1_code 16 = .ok (.putfield 17, 3) := by decide +kernel
theorem d5_19 : decode prog_28_method_1_code 19 = .ok (.aload_n 0, 1) := by decide +kernel
theorem d5_20 : decode prog_28_method_1_code 20 = .ok (.aload 4, 2) := by decide +kernel
theorem d5_22 : decode prog_28_method_1_code 22 = .ok (.putfield 21, 3) := by decide +kernel
theorem d5_25 : decode prog_28_method_1_code 25 = .ok (.return_, 1) := by decide +kernel
theorem ef_5_RRRIn (m : MethodId) (x0 : Addr) (x1 : Addr) (x2 : Addr) (x3 : Int32) : entryFrame m #[(.ref x0), (.ref x1), (.ref x2), (.int x3), .null] 5 = mkF m 0 #[.val (.ref x0), .val (.ref x1), .val (.ref x2), .val (.int x3), .val .null] [] := by first | (simp [entryFrame, mkF, argsToLocals, Value.category]; done) | rfl
theorem pn_6 : plainName "com/example/runqueue/runqueue/Outcome" = true := by first | (simp [plainName, overriddenIn]; done) | decide +kernel
def Qrm5 (Z : State) (a1 : Addr) (a2 : Addr) (a3 : Addr) (p4 : Int32) (h0 : Heap) (n0 : Nat) (v : Option Value) (h : Heap) (L : List Loc) : Prop := v = none ∧ Fr n0 L ∧ Keep h0 h [a1] ∧ Exa Z h a1 "com/example/runqueue/runqueue/Outcome" ∧ Fld Z h a1 "com/example/runqueue/runqueue/Outcome" "job" "Lcom/example/runqueue/runqueue/Job;" (.ref a2) ∧ Fld Z h a1 "com/example/runqueue/runqueue/Outcome" "state" "Lcom/example/runqueue/runqueue/Outcome$State;" (.ref a3) ∧ Fld Z h a1 "com/example/runqueue/runqueue/Outcome" "attempts" "I" (.int p4) ∧ Fld Z h a1 "com/example/runqueue/runqueue/Outcome" "last" "Lcom/example/runqueue/runqueue/Outcome$Run;" .null
set_option maxRecDepth 65536 in
set_option maxHeartbeats 40000000 in
theorem rm5 (l : Launch) (Z : State) (a0 : Array Value) (hw : ∀ d ∈ tables_1, d.before a0 Z = true) (ws : List Jvm.Cond) (a1 : Addr) (a2 : Addr) (a3 : Addr) (p4 : Int32) (h0 : Heap) (n0 : Nat) (O0 : Old Z n0 h0) (E_6 : Exa Z h0 a1 "com/example/runqueue/runqueue/Outcome") (F_7 : Fld Z h0 a1 "com/example/runqueue/runqueue/Outcome" "job" "Lcom/example/runqueue/runqueue/Job;" .null) (g_a1 : n0 ≤ a1) (F_9 : Fld Z h0 a1 "com/example/runqueue/runqueue/Outcome" "state" "Lcom/example/runqueue/runqueue/Outcome$State;" .null) (F_10 : Fld Z h0 a1 "com/example/runqueue/runqueue/Outcome" "attempts" "I" (.int (0 : Int32))) (F_11 : Fld Z h0 a1 "com/example/runqueue/runqueue/Outcome" "last" "Lcom/example/runqueue/runqueue/Outcome$Run;" .null) :
    MetFree l (⟨"com/example/runqueue/runqueue/Outcome", "<init>", "(Lcom/example/runqueue/runqueue/Job;Lcom/example/runqueue/runqueue/Outcome$State;ILcom/example/runqueue/runqueue/Outcome$Run;)V"⟩ : MethodName) (head1 (Jvm.Cond.code (⟨"com/example/runqueue/runqueue/Outcome", "<init>", "(Lcom/example/runqueue/runqueue/Job;Lcom/example/runqueue/runqueue/Outcome$State;ILcom/example/runqueue/runqueue/Outcome$Run;)V"⟩ : MethodName) prog_28_method_1_code 5 none :: ws) ({ frames := 2, cells := 0, slots := 0, locals := 24 } : Room)) (fun a U => a = #[(.ref a1), (.ref a2), (.ref a3), (.int p4), .null] ∧ Z.Warmed39 U.vm ∧ U.heap = h0) (fun _ _ _ _ _ => True) (fun _ U o U' => ∃ v L, o = .returned v ∧ Qrm5 Z a1 a2 a3 p4 h0 n0 v U'.heap L ∧ FrameEnd U o U' L ({ frames := 2, cells := 0, slots := 0, locals := 24 } : Room).cells ({ frames := 2, cells := 0, slots := 0, locals := 24 } : Room).slots) := by
  refine MetFree.of_bodySF (plainFor_of_name pn_6) hisR ?_
  intro p e s m args below meth c s₁ Bd hml0 hP hK
  obtain ⟨rfl, hZ, hh⟩ := hP
  have hx := Bd.exec
  have hby := Bd.bytes
  have hml : c.maxLocals = 5 := hml0
  have hown : s.vm.findClass "com/example/runqueue/runqueue/Outcome" = some m.cls := findClass_of_methodNamed Bd.named
  have hnm := (name_of_methodNamed Bd.named Bd.method).1
  have X0 : Stand p l e ({ frames := 2, cells := 0, slots := 0, locals := 24 } : Room) s m #[(.ref a1), (.ref a2), (.ref a3), (.int p4), .null] below meth c s₁ [] 0 0 := Stand.of_body Bd
  have e0 : s₁.heap = h0 := by rw [← hh, Bd.state]; rfl
  have N0 := Fr.nil n0
  have pre0 : ∀ t, Steps p.tables e below (s₁.setTop (mkF m 0 #[.val (.ref a1), .val (.ref a2), .val (.ref a3), .val (.int p4), .val .null] [])) t → Steps p.tables e below (s₁.setTop (entryFrame m #[(.ref a1), (.ref a2), (.ref a3), (.int p4), .null] 5)) t := fun t k => castTop (ef_5_RRRIn m a1 a2 a3 p4) k
  obtain ⟨_, _, ⟨T5, L5, k5, n5⟩, -, X5, ⟨Lc5, hQ5, l5, y5, z5⟩, st5⟩ := X0.specialBack hx (y := (⟨"java/lang/Record", "<init>", "()V"⟩ : MethodName)) rfl hown (mvT hZ (hw _ (List.mem_of_getElem? (i := 49) rfl))) (mvT hZ (hw _ (List.mem_of_getElem? (i := 19) rfl))) (mvT hZ (hw _ (List.mem_of_getElem? (i := 22) rfl))) (by decide) (backOf (W := 0) (rm2 l Z a0 hw [] a1 h0 n0 O0 ) hZ (hw _ (List.mem_of_getElem? (i := 22) rfl)) (hw _ (List.mem_of_getElem? (i := 21) rfl)) (by decide) (by decide)) (g := (mkF m 1 #[.val (.ref a1), .val (.ref a2), .val (.ref a3), .val (.int p4), .val .null] [(.ref a1)])) rfl (by rw [hml]; rfl) (Steps.refl _) (a := a1) (argsL := []) (rest := []) (lenOf pd_1 rfl) rfl (by show 2 * 0 + _ ≤ _; exact Nat.le_of_eq rfl) (hb hby d5_1) (fun _ _ => ⟨rfl, e0, (by decide : 0 + 0 ≤ _), (by decide : 0 + 0 ≤ _)⟩)
  dsimp only [Pt.U, Pt.locs, Pt.cells, Pt.slots] at X5 l5 y5 z5 st5 hQ5
  subst l5 y5 z5
  obtain ⟨rfl, Nq5, e5⟩ := hQ5
  have N5 := Fr.app N0 Nq5
  obtain ⟨T8, h8, X8, e8, W8, st8⟩ := putF X5 hx hZ hown (host := "") (Or.inl (hw _ (List.mem_of_getElem? (i := 50) rfl))) Via.refl e5 F_7 E_6 (Or.inr ⟨(hw _ (List.mem_of_getElem? (i := 51) rfl)), rfl, hnm⟩) (hw _ (List.mem_of_getElem? (i := 44) rfl)) (ty := (.object "com/example/runqueue/runqueue/Job")) (by decide) rfl rfl (g := (mkF m 6 #[.val (.ref a1), .val (.ref a2), .val (.ref a3), .val (.int p4), .val .null] [(.ref a2), (.ref a1)])) rfl rfl (hb hby d5_6)
  have K8 : Keep h0 h8 [a1] := (Keep.refl h0 [a1]).wr W8 (Or.inl (List.mem_of_getElem? (i := 0) rfl))
  have O8 : Old Z n0 h8 := O0.wr W8 g_a1
  have N8 := Fr.snoc X8 N5 g_a1
  have Fw8 : Fld Z h8 a1 "com/example/runqueue/runqueue/Outcome" "job" "Lcom/example/runqueue/runqueue/Job;" (.ref a2) := F_7.same W8
  have f12 : Fld Z h8 a1 "com/example/runqueue/runqueue/Outcome" "state" "Lcom/example/runqueue/runqueue/Outcome$State;" .null := (F_9.other W8 (Or.inr (slot_ne (Or.inr (hw _ (List.mem_of_getElem? (i := 53) rfl))) (Or.inr (hw _ (List.mem_of_getElem? (i := 51) rfl))) (by decide) (t := (.object "com/example/runqueue/runqueue/Outcome$State")) (t' := (.object "com/example/runqueue/runqueue/Job")) (by decide) (by decide))))
  have f13 : Exa Z h8 a1 "com/example/runqueue/runqueue/Outcome" := (E_6.wr W8)
  obtain ⟨T14, h14, X14, e14, W14, st14⟩ := putF X8 hx hZ hown (host := "") (Or.inl (hw _ (List.mem_of_getElem? (i := 52) rfl))) Via.refl e8 f12 f13 (Or.inr ⟨(hw _ (List.mem_of_getElem? (i := 53) rfl)), rfl, hnm⟩) (hw _ (List.mem_of_getElem? (i := 44) rfl)) (ty := (.object "com/example/runqueue/runqueue/Outcome$State")) (by decide) rfl rfl (g := (mkF m 11 #[.val (.ref a1), .val (.ref a2), .val (.ref a3), .val (.int p4), .val .null] [(.ref a3), (.ref a1)])) rfl rfl (hb hby d5_11)
  have K14 : Keep h0 h14 [a1] := K8.wr W14 (Or.inl (List.mem_of_getElem? (i := 0) rfl))
  have O14 : Old Z n0 h14 := O8.wr W14 g_a1
  have N14 := Fr.snoc X14 N8 g_a1
  have Fw14 : Fld Z h14 a1 "com/example/runqueue/runqueue/Outcome" "state" "Lcom/example/runqueue/runqueue/Outcome$State;" (.ref a3) := f12.same W14
  have f15 : Fld Z h14 a1 "com/example/runqueue/runqueue/Outcome" "attempts" "I" (.int (0 : Int32)) := ((F_10.other W8 (Or.inr (slot_ne (Or.inr (hw _ (List.mem_of_getElem? (i := 55) rfl))) (Or.inr (hw _ (List.mem_of_getElem? (i := 51) rfl))) (by decide) (t := .int) (t' := (.object "com/example/runqueue/runqueue/Job")) (by decide) (by decide)))).other W14 (Or.inr (slot_ne (Or.inr (hw _ (List.mem_of_getElem? (i := 55) rfl))) (Or.inr (hw _ (List.mem_of_getElem? (i := 53) rfl))) (by decide) (t := .int) (t' := (.object "com/example/runqueue/runqueue/Outcome$State")) (by decide) (by decide))))
  have f16 : Exa Z h14 a1 "com/example/runqueue/runqueue/Outcome" := (f13.wr W14)
  obtain ⟨T17, h17, X17, e17, W17, st17⟩ := putF X14 hx hZ hown (host := "") (Or.inl (hw _ (List.mem_of_getElem? (i := 54) rfl))) Via.refl e14 f15 f16 (Or.inr ⟨(hw _ (List.mem_of_getElem? (i := 55) rfl)), rfl, hnm⟩) (hw _ (List.mem_of_getElem? (i := 44) rfl)) (ty := .int) (by decide) rfl rfl (g := (mkF m 16 #[.val (.ref a1), .val (.ref a2), .val (.ref a3), .val (.int p4), .val .null] [(.int p4), (.ref a1)])) rfl rfl (hb hby d5_16)
  have K17 : Keep h0 h17 [a1] := K14.wr W17 (Or.inl (List.mem_of_getElem? (i := 0) rfl))
  have O17 : Old Z n0 h17 := O14.wr W17 g_a1
  have N17 := Fr.snoc X17 N14 g_a1
  have Fw17 : Fld Z h17 a1 "com/example/runqueue/runqueue/Outcome" "attempts" "I" (.int p4) := f15.same W17
  have f18 : Fld Z h17 a1 "com/example/runqueue/runqueue/Outcome" "last" "Lcom/example/runqueue/runqueue/Outcome$Run;" .null := (((F_11.other W8 (Or.inr (slot_ne (Or.inr (hw _ (List.mem_of_getElem? (i := 57) rfl))) (Or.inr (hw _ (List.mem_of_getElem? (i := 51) rfl))) (by decide) (t := (.object "com/example/runqueue/runqueue/Outcome$Run")) (t' := (.object "com/example/runqueue/runqueue/Job")) (by decide) (by decide)))).other W14 (Or.inr (slot_ne (Or.inr (hw _ (List.mem_of_getElem? (i := 57) rfl))) (Or.inr (hw _ (List.mem_of_getElem? (i := 53) rfl))) (by decide) (t := (.object "com/example/runqueue/runqueue/Outcome$Run")) (t' := (.object "com/example/runqueue/runqueue/Outcome$State")) (by decide) (by decide)))).other W17 (Or.inr (slot_ne (Or.inr (hw _ (List.mem_of_getElem? (i := 57) rfl))) (Or.inr (hw _ (List.mem_of_getElem? (i := 55) rfl))) (by decide) (t := (.object "com/example/runqueue/runqueue/Outcome$Run")) (t' := .int) (by decide) (by decide))))
  have f19 : Exa Z h17 a1 "com/example/runqueue/runqueue/Outcome" := (f16.wr W17)
  obtain ⟨T20, h20, X20, e20, W20, st20⟩ := putF X17 hx hZ hown (host := "") (Or.inl (hw _ (List.mem_of_getElem? (i := 56) rfl))) Via.refl e17 f18 f19 (Or.inr ⟨(hw _ (List.mem_of_getElem? (i := 57) rfl)), rfl, hnm⟩) (hw _ (List.mem_of_getElem? (i := 44) rfl)) (ty := (.object "com/example/runqueue/runqueue/Outcome$Run")) (by decide) rfl rfl (g := (mkF m 22 #[.val (.ref a1), .val (.ref a2), .val (.ref a3), .val (.int p4), .val .null] [.null, (.ref a1)])) rfl rfl (hb hby d5_22)
  have K20 : Keep h0 h20 [a1] := K17.wr W20 (Or.inl (List.mem_of_getElem? (i := 0) rfl))
  have O20 : Old Z n0 h20 := O17.wr W20 g_a1
  have N20 := Fr.snoc X20 N17 g_a1
  have Fw20 : Fld Z h20 a1 "com/example/runqueue/runqueue/Outcome" "last" "Lcom/example/runqueue/runqueue/Outcome$Run;" .null := f18.same W20
  have f21 : Exa Z h20 a1 "com/example/runqueue/runqueue/Outcome" := (f19.wr W20)
  have f22 : Fld Z h20 a1 "com/example/runqueue/runqueue/Outcome" "job" "Lcom/example/runqueue/runqueue/Job;" (.ref a2) := (((Fw8.other W14 (Or.inr (slot_ne (Or.inr (hw _ (List.mem_of_getElem? (i := 51) rfl))) (Or.inr (hw _ (List.mem_of_getElem? (i := 53) rfl))) (by decide) (t := (.object "com/example/runqueue/runqueue/Job")) (t' := (.object "com/example/runqueue/runqueue/Outcome$State")) (by decide) (by decide)))).other W17 (Or.inr (slot_ne (Or.inr (hw _ (List.mem_of_getElem? (i := 51) rfl))) (Or.inr (hw _ (List.mem_of_getElem? (i := 55) rfl))) (by decide) (t := (.object "com/example/runqueue/runqueue/Job")) (t' := .int) (by decide) (by decide)))).other W20 (Or.inr (slot_ne (Or.inr (hw _ (List.mem_of_getElem? (i := 51) rfl))) (Or.inr (hw _ (List.mem_of_getElem? (i := 57) rfl))) (by decide) (t := (.object "com/example/runqueue/runqueue/Job")) (t' := (.object "com/example/runqueue/runqueue/Outcome$Run")) (by decide) (by decide))))
  have f23 : Fld Z h20 a1 "com/example/runqueue/runqueue/Outcome" "state" "Lcom/example/runqueue/runqueue/Outcome$State;" (.ref a3) := ((Fw14.other W17 (Or.inr (slot_ne (Or.inr (hw _ (List.mem_of_getElem? (i := 53) rfl))) (Or.inr (hw _ (List.mem_of_getElem? (i := 55) rfl))) (by decide) (t := (.object "com/example/runqueue/runqueue/Outcome$State")) (t' := .int) (by decide) (by decide)))).other W20 (Or.inr (slot_ne (Or.inr (hw _ (List.mem_of_getElem? (i := 53) rfl))) (Or.inr (hw _ (List.mem_of_getElem? (i := 57) rfl))) (by decide) (t := (.object "com/example/runqueue/runqueue/Outcome$State")) (t' := (.object "com/example/runqueue/runqueue/Outcome$Run")) (by decide) (by decide))))
  have f24 : Fld Z h20 a1 "com/example/runqueue/runqueue/Outcome" "attempts" "I" (.int p4) := (Fw17.other W20 (Or.inr (slot_ne (Or.inr (hw _ (List.mem_of_getElem? (i := 55) rfl))) (Or.inr (hw _ (List.mem_of_getElem? (i := 57) rfl))) (by decide) (t := .int) (t' := (.object "com/example/runqueue/runqueue/Outcome$Run")) (by decide) (by decide))))
  obtain ⟨fs, hr, hrun, hended, hW, hsame⟩ := X20.leave (v := none) (fun _ => rfl)
  refine ⟨_, _, pre0 _ ?_, hrun, hended, _, _, rfl, ?_, ⟨_, rfl⟩, hW, hsame.mono (by decide) (by decide)⟩
  · show Steps p.tables e below (s₁.setTop (mkF m 0 #[.val (.ref a1), .val (.ref a2), .val (.ref a3), .val (.int p4), .val .null] [])) _
    refine XS.aloadN X0.here hx rfl (hb hby d5_0) rfl rfl ?_
    show Steps p.tables e below (s₁.setTop (mkF m 1 #[.val (.ref a1), .val (.ref a2), .val (.ref a3), .val (.int p4), .val .null] [(.ref a1)])) _
    refine st5.trans ?_
    show Steps p.tables e below (T5.setTop (mkF m 4 #[.val (.ref a1), .val (.ref a2), .val (.ref a3), .val (.int p4), .val .null] [])) _
    refine XS.aloadN X5.here hx rfl (hb hby d5_4) rfl rfl ?_
    refine XS.aloadN X5.here hx rfl (hb hby d5_5) rfl rfl ?_
    show Steps p.tables e below (T5.setTop (mkF m 6 #[.val (.ref a1), .val (.ref a2), .val (.ref a3), .val (.int p4), .val .null] [(.ref a2), (.ref a1)])) _
    refine st8 _ ?_
    show Steps p.tables e below (T8.setTop (mkF m 9 #[.val (.ref a1), .val (.ref a2), .val (.ref a3), .val (.int p4), .val .null] [])) _
    refine XS.aloadN X8.here hx rfl (hb hby d5_9) rfl rfl ?_
    refine XS.aloadN X8.here hx rfl (hb hby d5_10) rfl rfl ?_
    show Steps p.tables e below (T8.setTop (mkF m 11 #[.val (.ref a1), .val (.ref a2), .val (.ref a3), .val (.int p4), .val .null] [(.ref a3), (.ref a1)])) _
    refine st14 _ ?_
    show Steps p.tables e below (T14.setTop (mkF m 14 #[.val (.ref a1), .val (.ref a2), .val (.ref a3), .val (.int p4), .val .null] [])) _
    refine XS.aloadN X14.here hx rfl (hb hby d5_14) rfl rfl ?_
    refine XS.iloadN X14.here hx rfl (hb hby d5_15) rfl ?_
    show Steps p.tables e below (T14.setTop (mkF m 16 #[.val (.ref a1), .val (.ref a2), .val (.ref a3), .val (.int p4), .val .null] [(.int p4), (.ref a1)])) _
    refine st17 _ ?_
    show Steps p.tables e below (T17.setTop (mkF m 19 #[.val (.ref a1), .val (.ref a2), .val (.ref a3), .val (.int p4), .val .null] [])) _
    refine XS.aloadN X17.here hx rfl (hb hby d5_19) rfl rfl ?_
    refine XS.aload X17.here hx rfl (hb hby d5_20) rfl rfl ?_
    show Steps p.tables e below (T17.setTop (mkF m 22 #[.val (.ref a1), .val (.ref a2), .val (.ref a3), .val (.int p4), .val .null] [.null, (.ref a1)])) _
    refine st20 _ ?_
    show Steps p.tables e below (T20.setTop (mkF m 25 #[.val (.ref a1), .val (.ref a2), .val (.ref a3), .val (.int p4), .val .null] [])) _
    exact X20.returnOut hx Bd.returns (hb hby d5_25) hr
  · show Qrm5 Z a1 a2 a3 p4 h0 n0 _ T20.heap _
    rw [e20]
    exact ⟨rfl, N20, K20, f21, f22, f23, f24, Fw20⟩
theorem pd_7 : parseMethodDescriptor "(Lcom/example/runqueue/runqueue/Job;Lcom/example/runqueue/runqueue/Outcome$State;ILcom/example/runqueue/runqueue/Outcome$Run;)V" = some ⟨[(.object "com/example/runqueue/runqueue/Job"), (.object "com/example/runqueue/runqueue/Outcome$State"), .int, (.object "com/example/runqueue/runqueue/Outcome$Run")], none⟩ := by decide +kernel
theorem d6_0 : decode prog_36_method_1_code 0 = .ok (.aload_n 0, 1) := by decide +kernel
theorem d6_1 : decode prog_36_method_1_code 1 = .ok (.invokespecial 1, 3) := by decide +kernel
theorem d6_4 : decode prog_36_method_1_code 4 = .ok (.aload_n 0, 1) := by decide +kernel
theorem d6_5 : decode prog_36_method_1_code 5 = .ok (.iload_n 1, 1) := by decide +kernel
theorem d6_6 : decode prog_36_method_1_code 6 = .ok (.putfield 7, 3) := by decide +kernel
theorem d6_9 : decode prog_36_method_1_code 9 = .ok (.aload_n 0, 1) := by decide +kernel
theorem d6_10 : decode prog_36_method_1_code 10 = .ok (.lload_n 2, 1) := by decide +kernel
theorem d6_11 : decode prog_36_method_1_code 11 = .ok (.putfield 13, 3) := by decide +kernel
theorem d6_14 : decode prog_36_method_1_code 14 = .ok (.return_, 1) := by decide +kernel
theorem ef_6_RIJ (m : MethodId) (x0 : Addr) (x1 : Int32) (x2 : Int64) : entryFrame m #[(.ref x0), (.int x1), (.long x2)] 4 = mkF m 0 #[.val (.ref x0), .val (.int x1), .val (.long x2), .second] [] := by first | (simp [entryFrame, mkF, argsToLocals, Value.category]; done) | rfl
theorem pn_8 : plainName "com/example/runqueue/runqueue/Retries" = true := by first | (simp [plainName, overriddenIn]; done) | decide +kernel
def Qrm6 (Z : State) (a1 : Addr) (p2 : Int32) (q3 : Int64) (h0 : Heap) (n0 : Nat) (v : Option Value) (h : Heap) (L : List Loc) : Prop := v = none ∧ Fr n0 L ∧ Keep h0 h [a1] ∧ Exa Z h a1 "com/example/runqueue/runqueue/Retries" ∧ Fld Z h a1 "com/example/runqueue/runqueue/Retries" "count" "I" (.int p2) ∧ Fld Z h a1 "com/example/runqueue/runqueue/Retries" "backoffMillis" "J" (.long q3)
set_option maxRecDepth 65536 in
set_option maxHeartbeats 40000000 in
theorem rm6 (l : Launch) (Z : State) (a0 : Array Value) (hw : ∀ d ∈ tables_1, d.before a0 Z = true) (ws : List Jvm.Cond) (a1 : Addr) (p2 : Int32) (q3 : Int64) (h0 : Heap) (n0 : Nat) (O0 : Old Z n0 h0) (E_5 : Exa Z h0 a1 "com/example/runqueue/runqueue/Retries") (F_6 : Fld Z h0 a1 "com/example/runqueue/runqueue/Retries" "count" "I" (.int (0 : Int32))) (g_a1 : n0 ≤ a1) (F_8 : Fld Z h0 a1 "com/example/runqueue/runqueue/Retries" "backoffMillis" "J" (.long (0 : Int64))) :
    MetFree l (⟨"com/example/runqueue/runqueue/Retries", "<init>", "(IJ)V"⟩ : MethodName) (head1 (Jvm.Cond.code (⟨"com/example/runqueue/runqueue/Retries", "<init>", "(IJ)V"⟩ : MethodName) prog_36_method_1_code 4 none :: ws) ({ frames := 2, cells := 0, slots := 0, locals := 24 } : Room)) (fun a U => a = #[(.ref a1), (.int p2), (.long q3)] ∧ Z.Warmed39 U.vm ∧ U.heap = h0) (fun _ _ _ _ _ => True) (fun _ U o U' => ∃ v L, o = .returned v ∧ Qrm6 Z a1 p2 q3 h0 n0 v U'.heap L ∧ FrameEnd U o U' L ({ frames := 2, cells := 0, slots := 0, locals := 24 } : Room).cells ({ frames := 2, cells := 0, slots := 0, locals := 24 } : Room).slots) := by
  refine MetFree.of_bodySF (plainFor_of_name pn_8) hisR ?_
  intro p e s m args below meth c s₁ Bd hml0 hP hK
  obtain ⟨rfl, hZ, hh⟩ := hP
  have hx := Bd.exec
  have hby := Bd.bytes
  have hml : c.maxLocals = 4 := hml0
  have hown : s.vm.findClass "com/example/runqueue/runqueue/Retries" = some m.cls := findClass_of_methodNamed Bd.named
  have hnm := (name_of_methodNamed Bd.named Bd.method).1
  have X0 : Stand p l e ({ frames := 2, cells := 0, slots := 0, locals := 24 } : Room) s m #[(.ref a1), (.int p2), (.long q3)] below meth c s₁ [] 0 0 := Stand.of_body Bd
  have e0 : s₁.heap = h0 := by rw [← hh, Bd.state]; rfl
  have N0 := Fr.nil n0
  have pre0 : ∀ t, Steps p.tables e below (s₁.setTop (mkF m 0 #[.val (.ref a1), .val (.int p2), .val (.long q3), .second] [])) t → Steps p.tables e below (s₁.setTop (entryFrame m #[(.ref a1), (.int p2), (.long q3)] 4)) t := fun t k => castTop (ef_6_RIJ m a1 p2 q3) k
  obtain ⟨_, _, ⟨T4, L4, k4, n4⟩, -, X4, ⟨Lc4, hQ4, l4, y4, z4⟩, st4⟩ := X0.specialBack hx (y := (⟨"java/lang/Record", "<init>", "()V"⟩ : MethodName)) rfl hown (mvT hZ (hw _ (List.mem_of_getElem? (i := 64) rfl))) (mvT hZ (hw _ (List.mem_of_getElem? (i := 19) rfl))) (mvT hZ (hw _ (List.mem_of_getElem? (i := 22) rfl))) (by decide) (backOf (W := 0) (rm2 l Z a0 hw [] a1 h0 n0 O0 ) hZ (hw _ (List.mem_of_getElem? (i := 22) rfl)) (hw _ (List.mem_of_getElem? (i := 21) rfl)) (by decide) (by decide)) (g := (mkF m 1 #[.val (.ref a1), .val (.int p2), .val (.long q3), .second] [(.ref a1)])) rfl (by rw [hml]; rfl) (Steps.refl _) (a := a1) (argsL := []) (rest := []) (lenOf pd_1 rfl) rfl (by show 2 * 0 + _ ≤ _; exact Nat.le_of_eq rfl) (hb hby d6_1) (fun _ _ => ⟨rfl, e0, (by decide : 0 + 0 ≤ _), (by decide : 0 + 0 ≤ _)⟩)
  dsimp only [Pt.U, Pt.locs, Pt.cells, Pt.slots] at X4 l4 y4 z4 st4 hQ4
  subst l4 y4 z4
  obtain ⟨rfl, Nq4, e4⟩ := hQ4
  have N4 := Fr.app N0 Nq4
  obtain ⟨T7, h7, X7, e7, W7, st7⟩ := putF X4 hx hZ hown (host := "") (Or.inl (hw _ (List.mem_of_getElem? (i := 65) rfl))) Via.refl e4 F_6 E_5 (Or.inr ⟨(hw _ (List.mem_of_getElem? (i := 66) rfl)), rfl, hnm⟩) (hw _ (List.mem_of_getElem? (i := 59) rfl)) (ty := .int) (by decide) rfl rfl (g := (mkF m 6 #[.val (.ref a1), .val (.int p2), .val (.long q3), .second] [(.int p2), (.ref a1)])) rfl rfl (hb hby d6_6)
  have K7 : Keep h0 h7 [a1] := (Keep.refl h0 [a1]).wr W7 (Or.inl (List.mem_of_getElem? (i := 0) rfl))
  have O7 : Old Z n0 h7 := O0.wr W7 g_a1
  have N7 := Fr.snoc X7 N4 g_a1
  have Fw7 : Fld Z h7 a1 "com/example/runqueue/runqueue/Retries" "count" "I" (.int p2) := F_6.same W7
  have f9 : Fld Z h7 a1 "com/example/runqueue/runqueue/Retries" "backoffMillis" "J" (.long (0 : Int64)) := (F_8.other W7 (Or.inr (slot_ne (Or.inr (hw _ (List.mem_of_getElem? (i := 68) rfl))) (Or.inr (hw _ (List.mem_of_getElem? (i := 66) rfl))) (by decide) (t := .long) (t' := .int) (by decide) (by decide))))
  have f10 : Exa Z h7 a1 "com/example/runqueue/runqueue/Retries" := (E_5.wr W7)
  obtain ⟨T11, h11, X11, e11, W11, st11⟩ := putF X7 hx hZ hown (host := "") (Or.inl (hw _ (List.mem_of_getElem? (i := 67) rfl))) Via.refl e7 f9 f10 (Or.inr ⟨(hw _ (List.mem_of_getElem? (i := 68) rfl)), rfl, hnm⟩) (hw _ (List.mem_of_getElem? (i := 59) rfl)) (ty := .long) (by decide) rfl rfl (g := (mkF m 11 #[.val (.ref a1), .val (.int p2), .val (.long q3), .second] [(.long q3), (.ref a1)])) rfl rfl (hb hby d6_11)
  have K11 : Keep h0 h11 [a1] := K7.wr W11 (Or.inl (List.mem_of_getElem? (i := 0) rfl))
  have O11 : Old Z n0 h11 := O7.wr W11 g_a1
  have N11 := Fr.snoc X11 N7 g_a1
  have Fw11 : Fld Z h11 a1 "com/example/runqueue/runqueue/Retries" "backoffMillis" "J" (.long q3) := f9.same W11
  have f12 : Exa Z h11 a1 "com/example/runqueue/runqueue/Retries" := (f10.wr W11)
  have f13 : Fld Z h11 a1 "com/example/runqueue/runqueue/Retries" "count" "I" (.int p2) := (Fw7.other W11 (Or.inr (slot_ne (Or.inr (hw _ (List.mem_of_getElem? (i := 66) rfl))) (Or.inr (hw _ (List.mem_of_getElem? (i := 68) rfl))) (by decide) (t := .int) (t' := .long) (by decide) (by decide))))
  obtain ⟨fs, hr, hrun, hended, hW, hsame⟩ := X11.leave (v := none) (fun _ => rfl)
  refine ⟨_, _, pre0 _ ?_, hrun, hended, _, _, rfl, ?_, ⟨_, rfl⟩, hW, hsame.mono (by decide) (by decide)⟩
  · show Steps p.tables e below (s₁.setTop (mkF m 0 #[.val (.ref a1), .val (.int p2), .val (.long q3), .second] [])) _
    refine XS.aloadN X0.here hx rfl (hb hby d6_0) rfl rfl ?_
    show Steps p.tables e below (s₁.setTop (mkF m 1 #[.val (.ref a1), .val (.int p2), .val (.long q3), .second] [(.ref a1)])) _
    refine st4.trans ?_
    show Steps p.tables e below (T4.setTop (mkF m 4 #[.val (.ref a1), .val (.int p2), .val (.long q3), .second] [])) _
    refine XS.aloadN X4.here hx rfl (hb hby d6_4) rfl rfl ?_
    refine XS.iloadN X4.here hx rfl (hb hby d6_5) rfl ?_
    show Steps p.tables e below (T4.setTop (mkF m 6 #[.val (.ref a1), .val (.int p2), .val (.long q3), .second] [(.int p2), (.ref a1)])) _
    refine st7 _ ?_
    show Steps p.tables e below (T7.setTop (mkF m 9 #[.val (.ref a1), .val (.int p2), .val (.long q3), .second] [])) _
    refine XS.aloadN X7.here hx rfl (hb hby d6_9) rfl rfl ?_
    refine XS.lloadN X7.here hx rfl (hb hby d6_10) rfl ?_
    show Steps p.tables e below (T7.setTop (mkF m 11 #[.val (.ref a1), .val (.int p2), .val (.long q3), .second] [(.long q3), (.ref a1)])) _
    refine st11 _ ?_
    show Steps p.tables e below (T11.setTop (mkF m 14 #[.val (.ref a1), .val (.int p2), .val (.long q3), .second] [])) _
    exact X11.returnOut hx Bd.returns (hb hby d6_14) hr
  · show Qrm6 Z a1 p2 q3 h0 n0 _ T11.heap _
    rw [e11]
    exact ⟨rfl, N11, K11, f12, f13, Fw11⟩
theorem pd_9 : parseMethodDescriptor "(IJ)V" = some ⟨[.int, .long], none⟩ := by decide +kernel
theorem d7_0 : decode prog_36_method_2_code 0 = .ok (.aload_n 1, 1) := by decide +kernel
theorem d7_1 : decode prog_36_method_2_code 1 = .ok (.invokevirtual 17, 3) := by decide +kernel
theorem d8_0 : decode prog_28_method_7_code 0 = .ok (.aload_n 0, 1) := by decide +kernel
theorem d8_1 : decode prog_28_method_7_code 1 = .ok (.getfield 13, 3) := by decide +kernel
theorem d8_4 : decode prog_28_method_7_code 4 = .ok (.areturn, 1) := by decide +kernel
theorem ef_8_R (m : MethodId) (x0 : Addr) : entryFrame m #[(.ref x0)] 1 = mkF m 0 #[.val (.ref x0)] [] := by first | (simp [entryFrame, mkF, argsToLocals, Value.category]; done) | rfl
def Qrm8 (Z : State) (a1 : Addr) (a2 : Addr) (h0 : Heap) (n0 : Nat) (v : Option Value) (h : Heap) (L : List Loc) : Prop := v = some (.ref a2) ∧ Fr n0 L ∧ h = h0
set_option maxRecDepth 65536 in
set_option maxHeartbeats 40000000 in
theorem rm8 (l : Launch) (Z : State) (a0 : Array Value) (hw : ∀ d ∈ tables_1, d.before a0 Z = true) (ws : List Jvm.Cond) (a1 : Addr) (a2 : Addr) (h0 : Heap) (n0 : Nat) (O0 : Old Z n0 h0) (F_3 : Fld Z h0 a1 "com/example/runqueue/runqueue/Outcome" "state" "Lcom/example/runqueue/runqueue/Outcome$State;" (.ref a2)) :
    MetFree l (⟨"com/example/runqueue/runqueue/Outcome", "state", "()Lcom/example/runqueue/runqueue/Outcome$State;"⟩ : MethodName) (head1 (Jvm.Cond.code (⟨"com/example/runqueue/runqueue/Outcome", "state", "()Lcom/example/runqueue/runqueue/Outcome$State;"⟩ : MethodName) prog_28_method_7_code 1 (some (.object "com/example/runqueue/runqueue/Outcome$State")) :: ws) ({ frames := 0, cells := 0, slots := 0, locals := 0 } : Room)) (fun a U => a = #[(.ref a1)] ∧ Z.Warmed39 U.vm ∧ U.heap = h0) (fun _ _ _ _ _ => True) (fun _ U o U' => ∃ v L, o = .returned v ∧ Qrm8 Z a1 a2 h0 n0 v U'.heap L ∧ FrameEnd U o U' L ({ frames := 0, cells := 0, slots := 0, locals := 0 } : Room).cells ({ frames := 0, cells := 0, slots := 0, locals := 0 } : Room).slots) := by
  refine MetFree.of_bodySF (plainFor_of_name pn_6) hisR ?_
  intro p e s m args below meth c s₁ Bd hml0 hP hK
  obtain ⟨rfl, hZ, hh⟩ := hP
  have hx := Bd.exec
  have hby := Bd.bytes
  have hml : c.maxLocals = 1 := hml0
  have hown : s.vm.findClass "com/example/runqueue/runqueue/Outcome" = some m.cls := findClass_of_methodNamed Bd.named
  have hnm := (name_of_methodNamed Bd.named Bd.method).1
  have X0 : Stand p l e ({ frames := 0, cells := 0, slots := 0, locals := 0 } : Room) s m #[(.ref a1)] below meth c s₁ [] 0 0 := Stand.of_body Bd
  have e0 : s₁.heap = h0 := by rw [← hh, Bd.state]; rfl
  have N0 := Fr.nil n0
  have pre0 : ∀ t, Steps p.tables e below (s₁.setTop (mkF m 0 #[.val (.ref a1)] [])) t → Steps p.tables e below (s₁.setTop (entryFrame m #[(.ref a1)] 1)) t := fun t k => castTop (ef_8_R m a1) k
  obtain ⟨T4, X4, e4, st4⟩ := getF X0 hx hZ hown (host := "") (Or.inl (hw _ (List.mem_of_getElem? (i := 52) rfl))) Via.refl e0 F_3 (g := (mkF m 1 #[.val (.ref a1)] [(.ref a1)])) rfl rfl (hb hby d8_1)
  obtain ⟨fs, hr, hrun, hended, hW, hsame⟩ := X4.leave (v := some (.ref a2)) (fun h => by rw [Bd.returns] at h; cases h)
  refine ⟨_, _, pre0 _ ?_, hrun, hended, _, _, rfl, ?_, ⟨_, rfl⟩, hW, hsame.mono (by decide) (by decide)⟩
  · show Steps p.tables e below (s₁.setTop (mkF m 0 #[.val (.ref a1)] [])) _
    refine XS.aloadN X0.here hx rfl (hb hby d8_0) rfl rfl ?_
    show Steps p.tables e below (s₁.setTop (mkF m 1 #[.val (.ref a1)] [(.ref a1)])) _
    refine st4 _ ?_
    show Steps p.tables e below (T4.setTop (mkF m 4 #[.val (.ref a1)] [(.ref a2)])) _
    jvm_step X4.here [X4.here.top, hx, (hb hby d8_4), X4.method', Bd.returns, Value.isRef, FieldType.isReference]
    first | (intro acts; rw [hr _ acts rfl rfl rfl]) | rw [hr _ _ rfl rfl rfl]
    exact Steps.refl _
  · show Qrm8 Z a1 a2 h0 n0 _ T4.heap _
    rw [e4]
    exact ⟨rfl, N0, rfl⟩
theorem pd_10 : parseMethodDescriptor "()Lcom/example/runqueue/runqueue/Outcome$State;" = some ⟨[], some (.object "com/example/runqueue/runqueue/Outcome$State")⟩ := by decide +kernel
theorem d7_4 : decode prog_36_method_2_code 4 = .ok (.astore_n 2, 1) := by decide +kernel
theorem d7_5 : decode prog_36_method_2_code 5 = .ok (.aload_n 1, 1) := by decide +kernel
theorem d7_6 : decode prog_36_method_2_code 6 = .ok (.invokevirtual 23, 3) := by decide +kernel
theorem d9_0 : decode prog_28_method_6_code 0 = .ok (.aload_n 0, 1) := by decide +kernel
theorem d9_1 : decode prog_28_method_6_code 1 = .ok (.getfield 7, 3) := by decide +kernel
theorem d9_4 : decode prog_28_method_6_code 4 = .ok (.areturn, 1) := by decide +kernel
theorem ef_9_R (m : MethodId) (x0 : Addr) : entryFrame m #[(.ref x0)] 1 = mkF m 0 #[.val (.ref x0)] [] := by first | (simp [entryFrame, mkF, argsToLocals, Value.category]; done) | rfl
def Qrm9 (Z : State) (a1 : Addr) (a2 : Addr) (h0 : Heap) (n0 : Nat) (v : Option Value) (h : Heap) (L : List Loc) : Prop := v = some (.ref a2) ∧ Fr n0 L ∧ h = h0
set_option maxRecDepth 65536 in
set_option maxHeartbeats 40000000 in
theorem rm9 (l : Launch) (Z : State) (a0 : Array Value) (hw : ∀ d ∈ tables_1, d.before a0 Z = true) (ws : List Jvm.Cond) (a1 : Addr) (a2 : Addr) (h0 : Heap) (n0 : Nat) (O0 : Old Z n0 h0) (F_3 : Fld Z h0 a1 "com/example/runqueue/runqueue/Outcome" "job" "Lcom/example/runqueue/runqueue/Job;" (.ref a2)) :
    MetFree l (⟨"com/example/runqueue/runqueue/Outcome", "job", "()Lcom/example/runqueue/runqueue/Job;"⟩ : MethodName) (head1 (Jvm.Cond.code (⟨"com/example/runqueue/runqueue/Outcome", "job", "()Lcom/example/runqueue/runqueue/Job;"⟩ : MethodName) prog_28_method_6_code 1 (some (.object "com/example/runqueue/runqueue/Job")) :: ws) ({ frames := 0, cells := 0, slots := 0, locals := 0 } : Room)) (fun a U => a = #[(.ref a1)] ∧ Z.Warmed39 U.vm ∧ U.heap = h0) (fun _ _ _ _ _ => True) (fun _ U o U' => ∃ v L, o = .returned v ∧ Qrm9 Z a1 a2 h0 n0 v U'.heap L ∧ FrameEnd U o U' L ({ frames := 0, cells := 0, slots := 0, locals := 0 } : Room).cells ({ frames := 0, cells := 0, slots := 0, locals := 0 } : Room).slots) := by
  refine MetFree.of_bodySF (plainFor_of_name pn_6) hisR ?_
  intro p e s m args below meth c s₁ Bd hml0 hP hK
  obtain ⟨rfl, hZ, hh⟩ := hP
  have hx := Bd.exec
  have hby := Bd.bytes
  have hml : c.maxLocals = 1 := hml0
  have hown : s.vm.findClass "com/example/runqueue/runqueue/Outcome" = some m.cls := findClass_of_methodNamed Bd.named
  have hnm := (name_of_methodNamed Bd.named Bd.method).1
  have X0 : Stand p l e ({ frames := 0, cells := 0, slots := 0, locals := 0 } : Room) s m #[(.ref a1)] below meth c s₁ [] 0 0 := Stand.of_body Bd
  have e0 : s₁.heap = h0 := by rw [← hh, Bd.state]; rfl
  have N0 := Fr.nil n0
  have pre0 : ∀ t, Steps p.tables e below (s₁.setTop (mkF m 0 #[.val (.ref a1)] [])) t → Steps p.tables e below (s₁.setTop (entryFrame m #[(.ref a1)] 1)) t := fun t k => castTop (ef_9_R m a1) k
  obtain ⟨T4, X4, e4, st4⟩ := getF X0 hx hZ hown (host := "") (Or.inl (hw _ (List.mem_of_getElem? (i := 50) rfl))) Via.refl e0 F_3 (g := (mkF m 1 #[.val (.ref a1)] [(.ref a1)])) rfl rfl (hb hby d9_1)
  obtain ⟨fs, hr, hrun, hended, hW, hsame⟩ := X4.leave (v := some (.ref a2)) (fun h => by rw [Bd.returns] at h; cases h)
  refine ⟨_, _, pre0 _ ?_, hrun, hended, _, _, rfl, ?_, ⟨_, rfl⟩, hW, hsame.mono (by decide) (by decide)⟩
  · show Steps p.tables e below (s₁.setTop (mkF m 0 #[.val (.ref a1)] [])) _
    refine XS.aloadN X0.here hx rfl (hb hby d9_0) rfl rfl ?_
    show Steps p.tables e below (s₁.setTop (mkF m 1 #[.val (.ref a1)] [(.ref a1)])) _
    refine st4 _ ?_
    show Steps p.tables e below (T4.setTop (mkF m 4 #[.val (.ref a1)] [(.ref a2)])) _
    jvm_step X4.here [X4.here.top, hx, (hb hby d9_4), X4.method', Bd.returns, Value.isRef, FieldType.isReference]
    first | (intro acts; rw [hr _ acts rfl rfl rfl]) | rw [hr _ _ rfl rfl rfl]
    exact Steps.refl _
  · show Qrm9 Z a1 a2 h0 n0 _ T4.heap _
    rw [e4]
    exact ⟨rfl, N0, rfl⟩
theorem pd_11 : parseMethodDescriptor "()Lcom/example/runqueue/runqueue/Job;" = some ⟨[], some (.object "com/example/runqueue/runqueue/Job")⟩ := by decide +kernel
theorem d7_9 : decode prog_36_method_2_code 9 = .ok (.invokevirtual 27, 3) := by decide +kernel
theorem d10_0 : decode prog_12_method_10_code 0 = .ok (.aload_n 0, 1) := by decide +kernel
theorem d10_1 : decode prog_12_method_10_code 1 = .ok (.getfield 32, 3) := by decide +kernel
theorem d10_4 : decode prog_12_method_10_code 4 = .ok (.ireturn, 1) := by decide +kernel
theorem ef_10_R (m : MethodId) (x0 : Addr) : entryFrame m #[(.ref x0)] 1 = mkF m 0 #[.val (.ref x0)] [] := by first | (simp [entryFrame, mkF, argsToLocals, Value.category]; done) | rfl
def Qrm10 (Z : State) (a1 : Addr) (p2 : Int32) (h0 : Heap) (n0 : Nat) (v : Option Value) (h : Heap) (L : List Loc) : Prop := v = some (.int p2) ∧ Fr n0 L ∧ h = h0
set_option maxRecDepth 65536 in
set_option maxHeartbeats 40000000 in
theorem rm10 (l : Launch) (Z : State) (a0 : Array Value) (hw : ∀ d ∈ tables_1, d.before a0 Z = true) (ws : List Jvm.Cond) (a1 : Addr) (p2 : Int32) (h0 : Heap) (n0 : Nat) (O0 : Old Z n0 h0) (F_3 : Fld Z h0 a1 "com/example/runqueue/runqueue/Job" "maxAttempts" "I" (.int p2)) :
    MetFree l (⟨"com/example/runqueue/runqueue/Job", "maxAttempts", "()I"⟩ : MethodName) (head1 (Jvm.Cond.code (⟨"com/example/runqueue/runqueue/Job", "maxAttempts", "()I"⟩ : MethodName) prog_12_method_10_code 1 (some .int) :: ws) ({ frames := 0, cells := 0, slots := 0, locals := 0 } : Room)) (fun a U => a = #[(.ref a1)] ∧ Z.Warmed39 U.vm ∧ U.heap = h0) (fun _ _ _ _ _ => True) (fun _ U o U' => ∃ v L, o = .returned v ∧ Qrm10 Z a1 p2 h0 n0 v U'.heap L ∧ FrameEnd U o U' L ({ frames := 0, cells := 0, slots := 0, locals := 0 } : Room).cells ({ frames := 0, cells := 0, slots := 0, locals := 0 } : Room).slots) := by
  refine MetFree.of_bodySF (plainFor_of_name pn_4) hisR ?_
  intro p e s m args below meth c s₁ Bd hml0 hP hK
  obtain ⟨rfl, hZ, hh⟩ := hP
  have hx := Bd.exec
  have hby := Bd.bytes
  have hml : c.maxLocals = 1 := hml0
  have hown : s.vm.findClass "com/example/runqueue/runqueue/Job" = some m.cls := findClass_of_methodNamed Bd.named
  have hnm := (name_of_methodNamed Bd.named Bd.method).1
  have X0 : Stand p l e ({ frames := 0, cells := 0, slots := 0, locals := 0 } : Room) s m #[(.ref a1)] below meth c s₁ [] 0 0 := Stand.of_body Bd
  have e0 : s₁.heap = h0 := by rw [← hh, Bd.state]; rfl
  have N0 := Fr.nil n0
  have pre0 : ∀ t, Steps p.tables e below (s₁.setTop (mkF m 0 #[.val (.ref a1)] [])) t → Steps p.tables e below (s₁.setTop (entryFrame m #[(.ref a1)] 1)) t := fun t k => castTop (ef_10_R m a1) k
  obtain ⟨T4, X4, e4, st4⟩ := getF X0 hx hZ hown (host := "") (Or.inl (hw _ (List.mem_of_getElem? (i := 41) rfl))) Via.refl e0 F_3 (g := (mkF m 1 #[.val (.ref a1)] [(.ref a1)])) rfl rfl (hb hby d10_1)
  obtain ⟨fs, hr, hrun, hended, hW, hsame⟩ := X4.leave (v := some (.int p2)) (fun h => by rw [Bd.returns] at h; cases h)
  refine ⟨_, _, pre0 _ ?_, hrun, hended, _, _, rfl, ?_, ⟨_, rfl⟩, hW, hsame.mono (by decide) (by decide)⟩
  · show Steps p.tables e below (s₁.setTop (mkF m 0 #[.val (.ref a1)] [])) _
    refine XS.aloadN X0.here hx rfl (hb hby d10_0) rfl rfl ?_
    show Steps p.tables e below (s₁.setTop (mkF m 1 #[.val (.ref a1)] [(.ref a1)])) _
    refine st4 _ ?_
    show Steps p.tables e below (T4.setTop (mkF m 4 #[.val (.ref a1)] [(.int p2)])) _
    exact retI X4 hx Bd.returns (hb hby d10_4) hr
  · show Qrm10 Z a1 p2 h0 n0 _ T4.heap _
    rw [e4]
    exact ⟨rfl, N0, rfl⟩
theorem pd_12 : parseMethodDescriptor "()I" = some ⟨[], some .int⟩ := by decide +kernel
theorem d7_12 : decode prog_36_method_2_code 12 = .ok (.ifCond .le 13, 3) := by decide +kernel
theorem d7_15 : decode prog_36_method_2_code 15 = .ok (.aload_n 1, 1) := by decide +kernel
theorem d7_16 : decode prog_36_method_2_code 16 = .ok (.invokevirtual 23, 3) := by decide +kernel
theorem d7_19 : decode prog_36_method_2_code 19 = .ok (.invokevirtual 27, 3) := by decide +kernel
theorem d7_22 : decode prog_36_method_2_code 22 = .ok (.goto 9, 3) := by decide +kernel
theorem d7_31 : decode prog_36_method_2_code 31 = .ok (.istore_n 3, 1) := by decide +kernel
theorem d7_32 : decode prog_36_method_2_code 32 = .ok (.aload_n 2, 1) := by decide +kernel
theorem d7_33 : decode prog_36_method_2_code 33 = .ok (.getstatic 33, 3) := by decide +kernel
theorem d7_36 : decode prog_36_method_2_code 36 = .ok (.if_acmp .eq 10, 3) := by decide +kernel
theorem d7_39 : decode prog_36_method_2_code 39 = .ok (.aload_n 2, 1) := by decide +kernel
theorem d7_40 : decode prog_36_method_2_code 40 = .ok (.getstatic 39, 3) := by decide +kernel
theorem d7_43 : decode prog_36_method_2_code 43 = .ok (.if_acmp .ne 15, 3) := by decide +kernel
theorem d7_58 : decode prog_36_method_2_code 58 = .ok (.iconst 0, 1) := by decide +kernel
theorem d7_59 : decode prog_36_method_2_code 59 = .ok (.ireturn, 1) := by decide +kernel
theorem ef_7_RR (m : MethodId) (x0 : Addr) (x1 : Addr) : entryFrame m #[(.ref x0), (.ref x1)] 4 = mkF m 0 #[.val (.ref x0), .val (.ref x1), .unset, .unset] [] := by first | (simp [entryFrame, mkF, argsToLocals, Value.category]; done) | rfl
def Qrm7 (Z : State) (a1 : Addr) (a2 : Addr) (a4 : Addr) (a7 : Addr) (p11 : Int32) (a17 : Addr) (a20 : Addr) (h0 : Heap) (n0 : Nat) (v : Option Value) (h : Heap) (L : List Loc) : Prop := v = some (.int (0 : Int32)) ∧ Fr n0 L ∧ h = h0
set_option maxRecDepth 65536 in
set_option maxHeartbeats 40000000 in
theorem rm7 (l : Launch) (Z : State) (a0 : Array Value) (hw : ∀ d ∈ tables_1, d.before a0 Z = true) (ws : List Jvm.Cond) (a1 : Addr) (a2 : Addr) (a4 : Addr) (a7 : Addr) (p11 : Int32) (a17 : Addr) (a20 : Addr) (h0 : Heap) (n0 : Nat) (O0 : Old Z n0 h0) (E_3 : Exa Z h0 a2 "com/example/runqueue/runqueue/Outcome") (F_5 : Fld Z h0 a2 "com/example/runqueue/runqueue/Outcome" "state" "Lcom/example/runqueue/runqueue/Outcome$State;" (.ref a4)) (F_8 : Fld Z h0 a2 "com/example/runqueue/runqueue/Outcome" "job" "Lcom/example/runqueue/runqueue/Job;" (.ref a7)) (E_10 : Exa Z h0 a7 "com/example/runqueue/runqueue/Job") (F_12 : Fld Z h0 a7 "com/example/runqueue/runqueue/Job" "maxAttempts" "I" (.int p11)) (hc14 : (0 : Int32) < p11) (S_18 : Sta Z Z.heap "com/example/runqueue/runqueue/Outcome$State" "FAILED" "Lcom/example/runqueue/runqueue/Outcome$State;" (.ref a17)) (ne_a4_a17 : a4 ≠ a17) (S_21 : Sta Z Z.heap "com/example/runqueue/runqueue/Outcome$State" "TIMEOUT" "Lcom/example/runqueue/runqueue/Outcome$State;" (.ref a20)) (ne_a4_a20 : a4 ≠ a20) :
    MetFree l (⟨"com/example/runqueue/runqueue/Retries", "again", "(Lcom/example/runqueue/runqueue/Outcome;)Z"⟩ : MethodName) (head1 (Jvm.Cond.code (⟨"com/example/runqueue/runqueue/Retries", "again", "(Lcom/example/runqueue/runqueue/Outcome;)Z"⟩ : MethodName) prog_36_method_2_code 4 (some .boolean) :: ws) ({ frames := 1, cells := 0, slots := 0, locals := 12 } : Room)) (fun a U => a = #[(.ref a1), (.ref a2)] ∧ Z.Warmed39 U.vm ∧ U.heap = h0) (fun _ _ _ _ _ => True) (fun _ U o U' => ∃ v L, o = .returned v ∧ Qrm7 Z a1 a2 a4 a7 p11 a17 a20 h0 n0 v U'.heap L ∧ FrameEnd U o U' L ({ frames := 1, cells := 0, slots := 0, locals := 12 } : Room).cells ({ frames := 1, cells := 0, slots := 0, locals := 12 } : Room).slots) := by
  refine MetFree.of_bodySF (plainFor_of_name pn_8) hisR ?_
  intro p e s m args below meth c s₁ Bd hml0 hP hK
  obtain ⟨rfl, hZ, hh⟩ := hP
  have hx := Bd.exec
  have hby := Bd.bytes
  have hml : c.maxLocals = 4 := hml0
  have hown : s.vm.findClass "com/example/runqueue/runqueue/Retries" = some m.cls := findClass_of_methodNamed Bd.named
  have hnm := (name_of_methodNamed Bd.named Bd.method).1
  have X0 : Stand p l e ({ frames := 1, cells := 0, slots := 0, locals := 12 } : Room) s m #[(.ref a1), (.ref a2)] below meth c s₁ [] 0 0 := Stand.of_body Bd
  have e0 : s₁.heap = h0 := by rw [← hh, Bd.state]; rfl
  have N0 := Fr.nil n0
  have pre0 : ∀ t, Steps p.tables e below (s₁.setTop (mkF m 0 #[.val (.ref a1), .val (.ref a2), .unset, .unset] [])) t → Steps p.tables e below (s₁.setTop (entryFrame m #[(.ref a1), (.ref a2)] 4)) t := fun t k => castTop (ef_7_RR m a1 a2) k
  obtain ⟨cq6, kq6, q6a, q6b, q6c⟩ := isOf hZ e0 E_3
  obtain ⟨_, _, ⟨T6, L6, k6, n6⟩, -, X6, ⟨Lc6, hQ6, l6, y6, z6⟩, st6⟩ := X0.virtualBack hx (y := (⟨"com/example/runqueue/runqueue/Outcome", "state", "()Lcom/example/runqueue/runqueue/Outcome$State;"⟩ : MethodName)) (z := (⟨"com/example/runqueue/runqueue/Outcome", "state", "()Lcom/example/runqueue/runqueue/Outcome$State;"⟩ : MethodName)) hown (mvT hZ (hw _ (List.mem_of_getElem? (i := 74) rfl))) (mvT hZ (hw _ (List.mem_of_getElem? (i := 75) rfl))) (notFace_of_selects (args := #[]) (mvT hZ (hw _ (List.mem_of_getElem? (i := 77) rfl)))) (mvT hZ (hw _ (List.mem_of_getElem? (i := 77) rfl))) (mvT hZ (hw _ (List.mem_of_getElem? (i := 76) rfl))) (by decide) (backOf (W := 0) (rm8 l Z a0 hw [] a2 a4 h0 n0 O0 F_5) hZ (hw _ (List.mem_of_getElem? (i := 78) rfl)) (hw _ (List.mem_of_getElem? (i := 45) rfl)) (by decide) (by decide)) q6a q6c (g := (mkF m 1 #[.val (.ref a1), .val (.ref a2), .unset, .unset] [(.ref a2)])) rfl (by rw [hml]; rfl) (Steps.refl _) (argsL := []) (rest := []) (lenOf pd_10 rfl) rfl (by show 2 * 0 + _ ≤ _; exact Nat.le_of_eq rfl) (hb hby d7_1) (fun _ _ => ⟨rfl, e0, (by decide : 0 + 0 ≤ _), (by decide : 0 + 0 ≤ _)⟩)
  dsimp only [Pt.U, Pt.locs, Pt.cells, Pt.slots] at X6 l6 y6 z6 st6 hQ6
  subst l6 y6 z6
  obtain ⟨rfl, Nq6, e6⟩ := hQ6
  have N6 := Fr.app N0 Nq6
  obtain ⟨cq9, kq9, q9a, q9b, q9c⟩ := isOf hZ e6 E_3
  obtain ⟨_, _, ⟨T9, L9, k9, n9⟩, -, X9, ⟨Lc9, hQ9, l9, y9, z9⟩, st9⟩ := X6.virtualBack hx (y := (⟨"com/example/runqueue/runqueue/Outcome", "job", "()Lcom/example/runqueue/runqueue/Job;"⟩ : MethodName)) (z := (⟨"com/example/runqueue/runqueue/Outcome", "job", "()Lcom/example/runqueue/runqueue/Job;"⟩ : MethodName)) hown (mvT hZ (hw _ (List.mem_of_getElem? (i := 79) rfl))) (mvT hZ (hw _ (List.mem_of_getElem? (i := 80) rfl))) (notFace_of_selects (args := #[]) (mvT hZ (hw _ (List.mem_of_getElem? (i := 82) rfl)))) (mvT hZ (hw _ (List.mem_of_getElem? (i := 82) rfl))) (mvT hZ (hw _ (List.mem_of_getElem? (i := 81) rfl))) (by decide) (backOf (W := 0) (rm9 l Z a0 hw [] a2 a7 h0 n0 O0 F_8) hZ (hw _ (List.mem_of_getElem? (i := 83) rfl)) (hw _ (List.mem_of_getElem? (i := 45) rfl)) (by decide) (by decide)) q9a q9c (g := (mkF m 6 #[.val (.ref a1), .val (.ref a2), .val (.ref a4), .unset] [(.ref a2)])) rfl (by rw [hml]; rfl) (Steps.refl _) (argsL := []) (rest := []) (lenOf pd_11 rfl) rfl (by show 2 * 0 + _ ≤ _; exact Nat.le_of_eq rfl) (hb hby d7_6) (fun _ _ => ⟨rfl, e6, (by decide : 0 + 0 ≤ _), (by decide : 0 + 0 ≤ _)⟩)
  dsimp only [Pt.U, Pt.locs, Pt.cells, Pt.slots] at X9 l9 y9 z9 st9 hQ9
  subst l9 y9 z9
  obtain ⟨rfl, Nq9, e9⟩ := hQ9
  have N9 := Fr.app N6 Nq9
  obtain ⟨cq13, kq13, q13a, q13b, q13c⟩ := isOf hZ e9 E_10
  obtain ⟨_, _, ⟨T13, L13, k13, n13⟩, -, X13, ⟨Lc13, hQ13, l13, y13, z13⟩, st13⟩ := X9.virtualBack hx (y := (⟨"com/example/runqueue/runqueue/Job", "maxAttempts", "()I"⟩ : MethodName)) (z := (⟨"com/example/runqueue/runqueue/Job", "maxAttempts", "()I"⟩ : MethodName)) hown (mvT hZ (hw _ (List.mem_of_getElem? (i := 84) rfl))) (mvT hZ (hw _ (List.mem_of_getElem? (i := 85) rfl))) (notFace_of_selects (args := #[]) (mvT hZ (hw _ (List.mem_of_getElem? (i := 87) rfl)))) (mvT hZ (hw _ (List.mem_of_getElem? (i := 87) rfl))) (mvT hZ (hw _ (List.mem_of_getElem? (i := 86) rfl))) (by decide) (backOf (W := 0) (rm10 l Z a0 hw [] a7 p11 h0 n0 O0 F_12) hZ (hw _ (List.mem_of_getElem? (i := 88) rfl)) (hw _ (List.mem_of_getElem? (i := 6) rfl)) (by decide) (by decide)) q13a q13c (g := (mkF m 9 #[.val (.ref a1), .val (.ref a2), .val (.ref a4), .unset] [(.ref a7)])) rfl (by rw [hml]; rfl) (Steps.refl _) (argsL := []) (rest := []) (lenOf pd_12 rfl) rfl (by show 2 * 0 + _ ≤ _; exact Nat.le_of_eq rfl) (hb hby d7_9) (fun _ _ => ⟨rfl, e9, (by decide : 0 + 0 ≤ _), (by decide : 0 + 0 ≤ _)⟩)
  dsimp only [Pt.U, Pt.locs, Pt.cells, Pt.slots] at X13 l13 y13 z13 st13 hQ13
  subst l13 y13 z13
  obtain ⟨rfl, Nq13, e13⟩ := hQ13
  have N13 := Fr.app N9 Nq13
  obtain ⟨cq15, kq15, q15a, q15b, q15c⟩ := isOf hZ e13 E_3
  obtain ⟨_, _, ⟨T15, L15, k15, n15⟩, -, X15, ⟨Lc15, hQ15, l15, y15, z15⟩, st15⟩ := X13.virtualBack hx (y := (⟨"com/example/runqueue/runqueue/Outcome", "job", "()Lcom/example/runqueue/runqueue/Job;"⟩ : MethodName)) (z := (⟨"com/example/runqueue/runqueue/Outcome", "job", "()Lcom/example/runqueue/runqueue/Job;"⟩ : MethodName)) hown (mvT hZ (hw _ (List.mem_of_getElem? (i := 79) rfl))) (mvT hZ (hw _ (List.mem_of_getElem? (i := 80) rfl))) (notFace_of_selects (args := #[]) (mvT hZ (hw _ (List.mem_of_getElem? (i := 82) rfl)))) (mvT hZ (hw _ (List.mem_of_getElem? (i := 82) rfl))) (mvT hZ (hw _ (List.mem_of_getElem? (i := 81) rfl))) (by decide) (backOf (W := 0) (rm9 l Z a0 hw [] a2 a7 h0 n0 O0 F_8) hZ (hw _ (List.mem_of_getElem? (i := 83) rfl)) (hw _ (List.mem_of_getElem? (i := 45) rfl)) (by decide) (by decide)) q15a q15c (g := (mkF m 16 #[.val (.ref a1), .val (.ref a2), .val (.ref a4), .unset] [(.ref a2)])) rfl (by rw [hml]; rfl) (Steps.refl _) (argsL := []) (rest := []) (lenOf pd_11 rfl) rfl (by show 2 * 0 + _ ≤ _; exact Nat.le_of_eq rfl) (hb hby d7_16) (fun _ _ => ⟨rfl, e13, (by decide : 0 + 0 ≤ _), (by decide : 0 + 0 ≤ _)⟩)
  dsimp only [Pt.U, Pt.locs, Pt.cells, Pt.slots] at X15 l15 y15 z15 st15 hQ15
  subst l15 y15 z15
  obtain ⟨rfl, Nq15, e15⟩ := hQ15
  have N15 := Fr.app N13 Nq15
  obtain ⟨cq16, kq16, q16a, q16b, q16c⟩ := isOf hZ e15 E_10
  obtain ⟨_, _, ⟨T16, L16, k16, n16⟩, -, X16, ⟨Lc16, hQ16, l16, y16, z16⟩, st16⟩ := X15.virtualBack hx (y := (⟨"com/example/runqueue/runqueue/Job", "maxAttempts", "()I"⟩ : MethodName)) (z := (⟨"com/example/runqueue/runqueue/Job", "maxAttempts", "()I"⟩ : MethodName)) hown (mvT hZ (hw _ (List.mem_of_getElem? (i := 84) rfl))) (mvT hZ (hw _ (List.mem_of_getElem? (i := 85) rfl))) (notFace_of_selects (args := #[]) (mvT hZ (hw _ (List.mem_of_getElem? (i := 87) rfl)))) (mvT hZ (hw _ (List.mem_of_getElem? (i := 87) rfl))) (mvT hZ (hw _ (List.mem_of_getElem? (i := 86) rfl))) (by decide) (backOf (W := 0) (rm10 l Z a0 hw [] a7 p11 h0 n0 O0 F_12) hZ (hw _ (List.mem_of_getElem? (i := 88) rfl)) (hw _ (List.mem_of_getElem? (i := 6) rfl)) (by decide) (by decide)) q16a q16c (g := (mkF m 19 #[.val (.ref a1), .val (.ref a2), .val (.ref a4), .unset] [(.ref a7)])) rfl (by rw [hml]; rfl) (Steps.refl _) (argsL := []) (rest := []) (lenOf pd_12 rfl) rfl (by show 2 * 0 + _ ≤ _; exact Nat.le_of_eq rfl) (hb hby d7_19) (fun _ _ => ⟨rfl, e15, (by decide : 0 + 0 ≤ _), (by decide : 0 + 0 ≤ _)⟩)
  dsimp only [Pt.U, Pt.locs, Pt.cells, Pt.slots] at X16 l16 y16 z16 st16 hQ16
  subst l16 y16 z16
  obtain ⟨rfl, Nq16, e16⟩ := hQ16
  have N16 := Fr.app N15 Nq16
  obtain ⟨T19, X19, e19, st19⟩ := getS2 X16 hx hZ hown (host := "") (Or.inl (hw _ (List.mem_of_getElem? (i := 89) rfl))) Via.refl e16 (S_18.ext O0.2) (g := (mkF m 33 #[.val (.ref a1), .val (.ref a2), .val (.ref a4), .val (.int p11)] [(.ref a4)])) rfl (hb hby d7_33)
  obtain ⟨T22, X22, e22, st22⟩ := getS2 X19 hx hZ hown (host := "") (Or.inl (hw _ (List.mem_of_getElem? (i := 91) rfl))) Via.refl e19 (S_21.ext O0.2) (g := (mkF m 40 #[.val (.ref a1), .val (.ref a2), .val (.ref a4), .val (.int p11)] [(.ref a4)])) rfl (hb hby d7_40)
  obtain ⟨fs, hr, hrun, hended, hW, hsame⟩ := X22.leave (v := some (.int (0 : Int32))) (fun h => by rw [Bd.returns] at h; cases h)
  refine ⟨_, _, pre0 _ ?_, hrun, hended, _, _, rfl, ?_, ⟨_, rfl⟩, hW, hsame.mono (by decide) (by decide)⟩
  · show Steps p.tables e below (s₁.setTop (mkF m 0 #[.val (.ref a1), .val (.ref a2), .unset, .unset] [])) _
    refine XS.aloadN X0.here hx rfl (hb hby d7_0) rfl rfl ?_
    show Steps p.tables e below (s₁.setTop (mkF m 1 #[.val (.ref a1), .val (.ref a2), .unset, .unset] [(.ref a2)])) _
    refine st6.trans ?_
    show Steps p.tables e below (T6.setTop (mkF m 4 #[.val (.ref a1), .val (.ref a2), .unset, .unset] [(.ref a4)])) _
    refine XS.astoreN X6.here hx rfl (hb hby d7_4) rfl rfl (l' := #[.val (.ref a1), .val (.ref a2), .val (.ref a4), .unset]) rfl ?_
    refine XS.aloadN X6.here hx rfl (hb hby d7_5) rfl rfl ?_
    show Steps p.tables e below (T6.setTop (mkF m 6 #[.val (.ref a1), .val (.ref a2), .val (.ref a4), .unset] [(.ref a2)])) _
    refine st9.trans ?_
    show Steps p.tables e below (T9.setTop (mkF m 9 #[.val (.ref a1), .val (.ref a2), .val (.ref a4), .unset] [(.ref a7)])) _
    refine st13.trans ?_
    show Steps p.tables e below (T13.setTop (mkF m 12 #[.val (.ref a1), .val (.ref a2), .val (.ref a4), .unset] [(.int p11)])) _
    refine XS.ifNo X13.here hx rfl (hb hby d7_12) rfl ((if0 _ _).trans (tlt (hc14 : (0 : Int32) < p11)).2.2.2) ?_
    refine XS.aloadN X13.here hx rfl (hb hby d7_15) rfl rfl ?_
    show Steps p.tables e below (T13.setTop (mkF m 16 #[.val (.ref a1), .val (.ref a2), .val (.ref a4), .unset] [(.ref a2)])) _
    refine st15.trans ?_
    show Steps p.tables e below (T15.setTop (mkF m 19 #[.val (.ref a1), .val (.ref a2), .val (.ref a4), .unset] [(.ref a7)])) _
    refine st16.trans ?_
    show Steps p.tables e below (T16.setTop (mkF m 22 #[.val (.ref a1), .val (.ref a2), .val (.ref a4), .unset] [(.int p11)])) _
    refine XS.goto X16.here hx rfl (pc0 := 22) (pc' := 31) rfl (hb hby d7_22) (by decide) (by decide) ?_
    refine XS.istoreN X16.here hx rfl (hb hby d7_31) rfl (l' := #[.val (.ref a1), .val (.ref a2), .val (.ref a4), .val (.int p11)]) rfl ?_
    refine XS.aloadN X16.here hx rfl (hb hby d7_32) rfl rfl ?_
    show Steps p.tables e below (T16.setTop (mkF m 33 #[.val (.ref a1), .val (.ref a2), .val (.ref a4), .val (.int p11)] [(.ref a4)])) _
    refine st19 _ ?_
    show Steps p.tables e below (T19.setTop (mkF m 36 #[.val (.ref a1), .val (.ref a2), .val (.ref a4), .val (.int p11)] [(.ref a17), (.ref a4)])) _
    refine Jvm.RoadKit.acmp (g := (mkF m 36 #[.val (.ref a1), .val (.ref a2), .val (.ref a4), .val (.int p11)] [(.ref a17), (.ref a4)])) X19 hx rfl rfl rfl (pc0 := 36) (pc' := 39) (same := false) rfl (hb hby d7_36) rfl (decide_eq_false fun q => ne_a4_a17 (Value.ref.inj q)) (by decide) (by decide) ?_
    refine XS.aloadN X19.here hx rfl (hb hby d7_39) rfl rfl ?_
    show Steps p.tables e below (T19.setTop (mkF m 40 #[.val (.ref a1), .val (.ref a2), .val (.ref a4), .val (.int p11)] [(.ref a4)])) _
    refine st22 _ ?_
    show Steps p.tables e below (T22.setTop (mkF m 43 #[.val (.ref a1), .val (.ref a2), .val (.ref a4), .val (.int p11)] [(.ref a20), (.ref a4)])) _
    refine Jvm.RoadKit.acmp (g := (mkF m 43 #[.val (.ref a1), .val (.ref a2), .val (.ref a4), .val (.int p11)] [(.ref a20), (.ref a4)])) X22 hx rfl rfl rfl (pc0 := 43) (pc' := 58) (same := false) rfl (hb hby d7_43) rfl (decide_eq_false fun q => ne_a4_a20 (Value.ref.inj q)) (by decide) (by decide) ?_
    refine XS.iconst X22.here hx rfl (hb hby d7_58) ?_
    show Steps p.tables e below (T22.setTop (mkF m 59 #[.val (.ref a1), .val (.ref a2), .val (.ref a4), .val (.int p11)] [(.int (0 : Int32))])) _
    exact retN X22 hx (t := .boolean) Bd.returns (by simp) (hb hby d7_59) hr
  · show Qrm7 Z a1 a2 a4 a7 p11 a17 a20 h0 n0 _ T22.heap _
    rw [e22]
    exact ⟨rfl, N16, rfl⟩
theorem pd_13 : parseMethodDescriptor "(Lcom/example/runqueue/runqueue/Outcome;)Z" = some ⟨[(.object "com/example/runqueue/runqueue/Outcome")], some .boolean⟩ := by decide +kernel
theorem d7_25 : decode prog_36_method_2_code 25 = .ok (.iconst 1, 1) := by decide +kernel
theorem d7_26 : decode prog_36_method_2_code 26 = .ok (.aload_n 0, 1) := by decide +kernel
theorem d7_27 : decode prog_36_method_2_code 27 = .ok (.getfield 7, 3) := by decide +kernel
theorem d7_30 : decode prog_36_method_2_code 30 = .ok (.iadd, 1) := by decide +kernel
def Qrm7_1 (Z : State) (a1 : Addr) (a2 : Addr) (a4 : Addr) (a7 : Addr) (p11 : Int32) (p15 : Int32) (a18 : Addr) (a21 : Addr) (h0 : Heap) (n0 : Nat) (v : Option Value) (h : Heap) (L : List Loc) : Prop := v = some (.int (0 : Int32)) ∧ Fr n0 L ∧ h = h0
set_option maxRecDepth 65536 in
set_option maxHeartbeats 40000000 in
theorem rm7_1 (l : Launch) (Z : State) (a0 : Array Value) (hw : ∀ d ∈ tables_1, d.before a0 Z = true) (ws : List Jvm.Cond) (a1 : Addr) (a2 : Addr) (a4 : Addr) (a7 : Addr) (p11 : Int32) (p15 : Int32) (a18 : Addr) (a21 : Addr) (h0 : Heap) (n0 : Nat) (O0 : Old Z n0 h0) (E_3 : Exa Z h0 a2 "com/example/runqueue/runqueue/Outcome") (F_5 : Fld Z h0 a2 "com/example/runqueue/runqueue/Outcome" "state" "Lcom/example/runqueue/runqueue/Outcome$State;" (.ref a4)) (F_8 : Fld Z h0 a2 "com/example/runqueue/runqueue/Outcome" "job" "Lcom/example/runqueue/runqueue/Job;" (.ref a7)) (E_10 : Exa Z h0 a7 "com/example/runqueue/runqueue/Job") (F_12 : Fld Z h0 a7 "com/example/runqueue/runqueue/Job" "maxAttempts" "I" (.int p11)) (hc14 : ¬ ((0 : Int32) < p11)) (F_16 : Fld Z h0 a1 "com/example/runqueue/runqueue/Retries" "count" "I" (.int p15)) (S_19 : Sta Z Z.heap "com/example/runqueue/runqueue/Outcome$State" "FAILED" "Lcom/example/runqueue/runqueue/Outcome$State;" (.ref a18)) (ne_a4_a18 : a4 ≠ a18) (S_22 : Sta Z Z.heap "com/example/runqueue/runqueue/Outcome$State" "TIMEOUT" "Lcom/example/runqueue/runqueue/Outcome$State;" (.ref a21)) (ne_a4_a21 : a4 ≠ a21) :
    MetFree l (⟨"com/example/runqueue/runqueue/Retries", "again", "(Lcom/example/runqueue/runqueue/Outcome;)Z"⟩ : MethodName) (head1 (Jvm.Cond.code (⟨"com/example/runqueue/runqueue/Retries", "again", "(Lcom/example/runqueue/runqueue/Outcome;)Z"⟩ : MethodName) prog_36_method_2_code 4 (some .boolean) :: ws) ({ frames := 1, cells := 0, slots := 0, locals := 12 } : Room)) (fun a U => a = #[(.ref a1), (.ref a2)] ∧ Z.Warmed39 U.vm ∧ U.heap = h0) (fun _ _ _ _ _ => True) (fun _ U o U' => ∃ v L, o = .returned v ∧ Qrm7_1 Z a1 a2 a4 a7 p11 p15 a18 a21 h0 n0 v U'.heap L ∧ FrameEnd U o U' L ({ frames := 1, cells := 0, slots := 0, locals := 12 } : Room).cells ({ frames := 1, cells := 0, slots := 0, locals := 12 } : Room).slots) := by
  refine MetFree.of_bodySF (plainFor_of_name pn_8) hisR ?_
  intro p e s m args below meth c s₁ Bd hml0 hP hK
  obtain ⟨rfl, hZ, hh⟩ := hP
  have hx := Bd.exec
  have hby := Bd.bytes
  have hml : c.maxLocals = 4 := hml0
  have hown : s.vm.findClass "com/example/runqueue/runqueue/Retries" = some m.cls := findClass_of_methodNamed Bd.named
  have hnm := (name_of_methodNamed Bd.named Bd.method).1
  have X0 : Stand p l e ({ frames := 1, cells := 0, slots := 0, locals := 12 } : Room) s m #[(.ref a1), (.ref a2)] below meth c s₁ [] 0 0 := Stand.of_body Bd
  have e0 : s₁.heap = h0 := by rw [← hh, Bd.state]; rfl
  have N0 := Fr.nil n0
  have pre0 : ∀ t, Steps p.tables e below (s₁.setTop (mkF m 0 #[.val (.ref a1), .val (.ref a2), .unset, .unset] [])) t → Steps p.tables e below (s₁.setTop (entryFrame m #[(.ref a1), (.ref a2)] 4)) t := fun t k => castTop (ef_7_RR m a1 a2) k
  obtain ⟨cq6, kq6, q6a, q6b, q6c⟩ := isOf hZ e0 E_3
  obtain ⟨_, _, ⟨T6, L6, k6, n6⟩, -, X6, ⟨Lc6, hQ6, l6, y6, z6⟩, st6⟩ := X0.virtualBack hx (y := (⟨"com/example/runqueue/runqueue/Outcome", "state", "()Lcom/example/runqueue/runqueue/Outcome$State;"⟩ : MethodName)) (z := (⟨"com/example/runqueue/runqueue/Outcome", "state", "()Lcom/example/runqueue/runqueue/Outcome$State;"⟩ : MethodName)) hown (mvT hZ (hw _ (List.mem_of_getElem? (i := 74) rfl))) (mvT hZ (hw _ (List.mem_of_getElem? (i := 75) rfl))) (notFace_of_selects (args := #[]) (mvT hZ (hw _ (List.mem_of_getElem? (i := 77) rfl)))) (mvT hZ (hw _ (List.mem_of_getElem? (i := 77) rfl))) (mvT hZ (hw _ (List.mem_of_getElem? (i := 76) rfl))) (by decide) (backOf (W := 0) (rm8 l Z a0 hw [] a2 a4 h0 n0 O0 F_5) hZ (hw _ (List.mem_of_getElem? (i := 78) rfl)) (hw _ (List.mem_of_getElem? (i := 45) rfl)) (by decide) (by decide)) q6a q6c (g := (mkF m 1 #[.val (.ref a1), .val (.ref a2), .unset, .unset] [(.ref a2)])) rfl (by rw [hml]; rfl) (Steps.refl _) (argsL := []) (rest := []) (lenOf pd_10 rfl) rfl (by show 2 * 0 + _ ≤ _; exact Nat.le_of_eq rfl) (hb hby d7_1) (fun _ _ => ⟨rfl, e0, (by decide : 0 + 0 ≤ _), (by decide : 0 + 0 ≤ _)⟩)
  dsimp only [Pt.U, Pt.locs, Pt.cells, Pt.slots] at X6 l6 y6 z6 st6 hQ6
  subst l6 y6 z6
  obtain ⟨rfl, Nq6, e6⟩ := hQ6
  have N6 := Fr.app N0 Nq6
  obtain ⟨cq9, kq9, q9a, q9b, q9c⟩ := isOf hZ e6 E_3
  obtain ⟨_, _, ⟨T9, L9, k9, n9⟩, -, X9, ⟨Lc9, hQ9, l9, y9, z9⟩, st9⟩ := X6.virtualBack hx (y := (⟨"com/example/runqueue/runqueue/Outcome", "job", "()Lcom/example/runqueue/runqueue/Job;"⟩ : MethodName)) (z := (⟨"com/example/runqueue/runqueue/Outcome", "job", "()Lcom/example/runqueue/runqueue/Job;"⟩ : MethodName)) hown (mvT hZ (hw _ (List.mem_of_getElem? (i := 79) rfl))) (mvT hZ (hw _ (List.mem_of_getElem? (i := 80) rfl))) (notFace_of_selects (args := #[]) (mvT hZ (hw _ (List.mem_of_getElem? (i := 82) rfl)))) (mvT hZ (hw _ (List.mem_of_getElem? (i := 82) rfl))) (mvT hZ (hw _ (List.mem_of_getElem? (i := 81) rfl))) (by decide) (backOf (W := 0) (rm9 l Z a0 hw [] a2 a7 h0 n0 O0 F_8) hZ (hw _ (List.mem_of_getElem? (i := 83) rfl)) (hw _ (List.mem_of_getElem? (i := 45) rfl)) (by decide) (by decide)) q9a q9c (g := (mkF m 6 #[.val (.ref a1), .val (.ref a2), .val (.ref a4), .unset] [(.ref a2)])) rfl (by rw [hml]; rfl) (Steps.refl _) (argsL := []) (rest := []) (lenOf pd_11 rfl) rfl (by show 2 * 0 + _ ≤ _; exact Nat.le_of_eq rfl) (hb hby d7_6) (fun _ _ => ⟨rfl, e6, (by decide : 0 + 0 ≤ _), (by decide : 0 + 0 ≤ _)⟩)
  dsimp only [Pt.U, Pt.locs, Pt.cells, Pt.slots] at X9 l9 y9 z9 st9 hQ9
  subst l9 y9 z9
  obtain ⟨rfl, Nq9, e9⟩ := hQ9
  have N9 := Fr.app N6 Nq9
  obtain ⟨cq13, kq13, q13a, q13b, q13c⟩ := isOf hZ e9 E_10
  obtain ⟨_, _, ⟨T13, L13, k13, n13⟩, -, X13, ⟨Lc13, hQ13, l13, y13, z13⟩, st13⟩ := X9.virtualBack hx (y := (⟨"com/example/runqueue/runqueue/Job", "maxAttempts", "()I"⟩ : MethodName)) (z := (⟨"com/example/runqueue/runqueue/Job", "maxAttempts", "()I"⟩ : MethodName)) hown (mvT hZ (hw _ (List.mem_of_getElem? (i := 84) rfl))) (mvT hZ (hw _ (List.mem_of_getElem? (i := 85) rfl))) (notFace_of_selects (args := #[]) (mvT hZ (hw _ (List.mem_of_getElem? (i := 87) rfl)))) (mvT hZ (hw _ (List.mem_of_getElem? (i := 87) rfl))) (mvT hZ (hw _ (List.mem_of_getElem? (i := 86) rfl))) (by decide) (backOf (W := 0) (rm10 l Z a0 hw [] a7 p11 h0 n0 O0 F_12) hZ (hw _ (List.mem_of_getElem? (i := 88) rfl)) (hw _ (List.mem_of_getElem? (i := 6) rfl)) (by decide) (by decide)) q13a q13c (g := (mkF m 9 #[.val (.ref a1), .val (.ref a2), .val (.ref a4), .unset] [(.ref a7)])) rfl (by rw [hml]; rfl) (Steps.refl _) (argsL := []) (rest := []) (lenOf pd_12 rfl) rfl (by show 2 * 0 + _ ≤ _; exact Nat.le_of_eq rfl) (hb hby d7_9) (fun _ _ => ⟨rfl, e9, (by decide : 0 + 0 ≤ _), (by decide : 0 + 0 ≤ _)⟩)
  dsimp only [Pt.U, Pt.locs, Pt.cells, Pt.slots] at X13 l13 y13 z13 st13 hQ13
  subst l13 y13 z13
  obtain ⟨rfl, Nq13, e13⟩ := hQ13
  have N13 := Fr.app N9 Nq13
  obtain ⟨T17, X17, e17, st17⟩ := getF X13 hx hZ hown (host := "") (Or.inl (hw _ (List.mem_of_getElem? (i := 65) rfl))) Via.refl e13 F_16 (g := (mkF m 27 #[.val (.ref a1), .val (.ref a2), .val (.ref a4), .unset] [(.ref a1), (.int (1 : Int32))])) rfl rfl (hb hby d7_27)
  obtain ⟨T20, X20, e20, st20⟩ := getS2 X17 hx hZ hown (host := "") (Or.inl (hw _ (List.mem_of_getElem? (i := 89) rfl))) Via.refl e17 (S_19.ext O0.2) (g := (mkF m 33 #[.val (.ref a1), .val (.ref a2), .val (.ref a4), .val (.int ((1 : Int32) + p15))] [(.ref a4)])) rfl (hb hby d7_33)
  obtain ⟨T23, X23, e23, st23⟩ := getS2 X20 hx hZ hown (host := "") (Or.inl (hw _ (List.mem_of_getElem? (i := 91) rfl))) Via.refl e20 (S_22.ext O0.2) (g := (mkF m 40 #[.val (.ref a1), .val (.ref a2), .val (.ref a4), .val (.int ((1 : Int32) + p15))] [(.ref a4)])) rfl (hb hby d7_40)
  obtain ⟨fs, hr, hrun, hended, hW, hsame⟩ := X23.leave (v := some (.int (0 : Int32))) (fun h => by rw [Bd.returns] at h; cases h)
  refine ⟨_, _, pre0 _ ?_, hrun, hended, _, _, rfl, ?_, ⟨_, rfl⟩, hW, hsame.mono (by decide) (by decide)⟩
  · show Steps p.tables e below (s₁.setTop (mkF m 0 #[.val (.ref a1), .val (.ref a2), .unset, .unset] [])) _
    refine XS.aloadN X0.here hx rfl (hb hby d7_0) rfl rfl ?_
    show Steps p.tables e below (s₁.setTop (mkF m 1 #[.val (.ref a1), .val (.ref a2), .unset, .unset] [(.ref a2)])) _
    refine st6.trans ?_
    show Steps p.tables e below (T6.setTop (mkF m 4 #[.val (.ref a1), .val (.ref a2), .unset, .unset] [(.ref a4)])) _
    refine XS.astoreN X6.here hx rfl (hb hby d7_4) rfl rfl (l' := #[.val (.ref a1), .val (.ref a2), .val (.ref a4), .unset]) rfl ?_
    refine XS.aloadN X6.here hx rfl (hb hby d7_5) rfl rfl ?_
    show Steps p.tables e below (T6.setTop (mkF m 6 #[.val (.ref a1), .val (.ref a2), .val (.ref a4), .unset] [(.ref a2)])) _
    refine st9.trans ?_
    show Steps p.tables e below (T9.setTop (mkF m 9 #[.val (.ref a1), .val (.ref a2), .val (.ref a4), .unset] [(.ref a7)])) _
    refine st13.trans ?_
    show Steps p.tables e below (T13.setTop (mkF m 12 #[.val (.ref a1), .val (.ref a2), .val (.ref a4), .unset] [(.int p11)])) _
    refine XS.ifYes X13.here hx rfl (pc0 := 12) (pc' := 25) rfl (hb hby d7_12) rfl ((if0 _ _).trans (flt (hc14 : ¬ ((0 : Int32) < p11))).2.2.2) (by decide) (by decide) ?_
    refine XS.iconst X13.here hx rfl (hb hby d7_25) ?_
    refine XS.aloadN X13.here hx rfl (hb hby d7_26) rfl rfl ?_
    show Steps p.tables e below (T13.setTop (mkF m 27 #[.val (.ref a1), .val (.ref a2), .val (.ref a4), .unset] [(.ref a1), (.int (1 : Int32))])) _
    refine st17 _ ?_
    show Steps p.tables e below (T17.setTop (mkF m 30 #[.val (.ref a1), .val (.ref a2), .val (.ref a4), .unset] [(.int p15), (.int (1 : Int32))])) _
    refine XS.iadd X17.here hx rfl (hb hby d7_30) rfl ?_
    refine XS.istoreN X17.here hx rfl (hb hby d7_31) rfl (l' := #[.val (.ref a1), .val (.ref a2), .val (.ref a4), .val (.int ((1 : Int32) + p15))]) rfl ?_
    refine XS.aloadN X17.here hx rfl (hb hby d7_32) rfl rfl ?_
    show Steps p.tables e below (T17.setTop (mkF m 33 #[.val (.ref a1), .val (.ref a2), .val (.ref a4), .val (.int ((1 : Int32) + p15))] [(.ref a4)])) _
    refine st20 _ ?_
    show Steps p.tables e below (T20.setTop (mkF m 36 #[.val (.ref a1), .val (.ref a2), .val (.ref a4), .val (.int ((1 : Int32) + p15))] [(.ref a18), (.ref a4)])) _
    refine Jvm.RoadKit.acmp (g := (mkF m 36 #[.val (.ref a1), .val (.ref a2), .val (.ref a4), .val (.int ((1 : Int32) + p15))] [(.ref a18), (.ref a4)])) X20 hx rfl rfl rfl (pc0 := 36) (pc' := 39) (same := false) rfl (hb hby d7_36) rfl (decide_eq_false fun q => ne_a4_a18 (Value.ref.inj q)) (by decide) (by decide) ?_
    refine XS.aloadN X20.here hx rfl (hb hby d7_39) rfl rfl ?_
    show Steps p.tables e below (T20.setTop (mkF m 40 #[.val (.ref a1), .val (.ref a2), .val (.ref a4), .val (.int ((1 : Int32) + p15))] [(.ref a4)])) _
    refine st23 _ ?_
    show Steps p.tables e below (T23.setTop (mkF m 43 #[.val (.ref a1), .val (.ref a2), .val (.ref a4), .val (.int ((1 : Int32) + p15))] [(.ref a21), (.ref a4)])) _
    refine Jvm.RoadKit.acmp (g := (mkF m 43 #[.val (.ref a1), .val (.ref a2), .val (.ref a4), .val (.int ((1 : Int32) + p15))] [(.ref a21), (.ref a4)])) X23 hx rfl rfl rfl (pc0 := 43) (pc' := 58) (same := false) rfl (hb hby d7_43) rfl (decide_eq_false fun q => ne_a4_a21 (Value.ref.inj q)) (by decide) (by decide) ?_
    refine XS.iconst X23.here hx rfl (hb hby d7_58) ?_
    show Steps p.tables e below (T23.setTop (mkF m 59 #[.val (.ref a1), .val (.ref a2), .val (.ref a4), .val (.int ((1 : Int32) + p15))] [(.int (0 : Int32))])) _
    exact retN X23 hx (t := .boolean) Bd.returns (by simp) (hb hby d7_59) hr
  · show Qrm7_1 Z a1 a2 a4 a7 p11 p15 a18 a21 h0 n0 _ T23.heap _
    rw [e23]
    exact ⟨rfl, N13, rfl⟩
theorem d7_46 : decode prog_36_method_2_code 46 = .ok (.aload_n 1, 1) := by decide +kernel
theorem d7_47 : decode prog_36_method_2_code 47 = .ok (.invokevirtual 42, 3) := by decide +kernel
theorem d11_0 : decode prog_28_method_8_code 0 = .ok (.aload_n 0, 1) := by decide +kernel
theorem d11_1 : decode prog_28_method_8_code 1 = .ok (.getfield 17, 3) := by decide +kernel
theorem d11_4 : decode prog_28_method_8_code 4 = .ok (.ireturn, 1) := by decide +kernel
theorem ef_11_R (m : MethodId) (x0 : Addr) : entryFrame m #[(.ref x0)] 1 = mkF m 0 #[.val (.ref x0)] [] := by first | (simp [entryFrame, mkF, argsToLocals, Value.category]; done) | rfl
def Qrm11 (Z : State) (a1 : Addr) (p2 : Int32) (h0 : Heap) (n0 : Nat) (v : Option Value) (h : Heap) (L : List Loc) : Prop := v = some (.int p2) ∧ Fr n0 L ∧ h = h0
set_option maxRecDepth 65536 in
set_option maxHeartbeats 40000000 in
theorem rm11 (l : Launch) (Z : State) (a0 : Array Value) (hw : ∀ d ∈ tables_1, d.before a0 Z = true) (ws : List Jvm.Cond) (a1 : Addr) (p2 : Int32) (h0 : Heap) (n0 : Nat) (O0 : Old Z n0 h0) (F_3 : Fld Z h0 a1 "com/example/runqueue/runqueue/Outcome" "attempts" "I" (.int p2)) :
    MetFree l (⟨"com/example/runqueue/runqueue/Outcome", "attempts", "()I"⟩ : MethodName) (head1 (Jvm.Cond.code (⟨"com/example/runqueue/runqueue/Outcome", "attempts", "()I"⟩ : MethodName) prog_28_method_8_code 1 (some .int) :: ws) ({ frames := 0, cells := 0, slots := 0, locals := 0 } : Room)) (fun a U => a = #[(.ref a1)] ∧ Z.Warmed39 U.vm ∧ U.heap = h0) (fun _ _ _ _ _ => True) (fun _ U o U' => ∃ v L, o = .returned v ∧ Qrm11 Z a1 p2 h0 n0 v U'.heap L ∧ FrameEnd U o U' L ({ frames := 0, cells := 0, slots := 0, locals := 0 } : Room).cells ({ frames := 0, cells := 0, slots := 0, locals := 0 } : Room).slots) := by
  refine MetFree.of_bodySF (plainFor_of_name pn_6) hisR ?_
  intro p e s m args below meth c s₁ Bd hml0 hP hK
  obtain ⟨rfl, hZ, hh⟩ := hP
  have hx := Bd.exec
  have hby := Bd.bytes
  have hml : c.maxLocals = 1 := hml0
  have hown : s.vm.findClass "com/example/runqueue/runqueue/Outcome" = some m.cls := findClass_of_methodNamed Bd.named
  have hnm := (name_of_methodNamed Bd.named Bd.method).1
  have X0 : Stand p l e ({ frames := 0, cells := 0, slots := 0, locals := 0 } : Room) s m #[(.ref a1)] below meth c s₁ [] 0 0 := Stand.of_body Bd
  have e0 : s₁.heap = h0 := by rw [← hh, Bd.state]; rfl
  have N0 := Fr.nil n0
  have pre0 : ∀ t, Steps p.tables e below (s₁.setTop (mkF m 0 #[.val (.ref a1)] [])) t → Steps p.tables e below (s₁.setTop (entryFrame m #[(.ref a1)] 1)) t := fun t k => castTop (ef_11_R m a1) k
  obtain ⟨T4, X4, e4, st4⟩ := getF X0 hx hZ hown (host := "") (Or.inl (hw _ (List.mem_of_getElem? (i := 54) rfl))) Via.refl e0 F_3 (g := (mkF m 1 #[.val (.ref a1)] [(.ref a1)])) rfl rfl (hb hby d11_1)
  obtain ⟨fs, hr, hrun, hended, hW, hsame⟩ := X4.leave (v := some (.int p2)) (fun h => by rw [Bd.returns] at h; cases h)
  refine ⟨_, _, pre0 _ ?_, hrun, hended, _, _, rfl, ?_, ⟨_, rfl⟩, hW, hsame.mono (by decide) (by decide)⟩
  · show Steps p.tables e below (s₁.setTop (mkF m 0 #[.val (.ref a1)] [])) _
    refine XS.aloadN X0.here hx rfl (hb hby d11_0) rfl rfl ?_
    show Steps p.tables e below (s₁.setTop (mkF m 1 #[.val (.ref a1)] [(.ref a1)])) _
    refine st4 _ ?_
    show Steps p.tables e below (T4.setTop (mkF m 4 #[.val (.ref a1)] [(.int p2)])) _
    exact retI X4 hx Bd.returns (hb hby d11_4) hr
  · show Qrm11 Z a1 p2 h0 n0 _ T4.heap _
    rw [e4]
    exact ⟨rfl, N0, rfl⟩
theorem d7_50 : decode prog_36_method_2_code 50 = .ok (.iload_n 3, 1) := by decide +kernel
theorem d7_51 : decode prog_36_method_2_code 51 = .ok (.if_icmp .ge 7, 3) := by decide +kernel
theorem d7_54 : decode prog_36_method_2_code 54 = .ok (.iconst 1, 1) := by decide +kernel
theorem d7_55 : decode prog_36_method_2_code 55 = .ok (.goto 4, 3) := by decide +kernel
def Qrm7_2 (Z : State) (a1 : Addr) (a2 : Addr) (a4 : Addr) (a7 : Addr) (p11 : Int32) (p19 : Int32) (h0 : Heap) (n0 : Nat) (v : Option Value) (h : Heap) (L : List Loc) : Prop := v = some (.int (1 : Int32)) ∧ Fr n0 L ∧ h = h0
set_option maxRecDepth 65536 in
set_option maxHeartbeats 40000000 in
theorem rm7_2 (l : Launch) (Z : State) (a0 : Array Value) (hw : ∀ d ∈ tables_1, d.before a0 Z = true) (ws : List Jvm.Cond) (a1 : Addr) (a2 : Addr) (a4 : Addr) (a7 : Addr) (p11 : Int32) (p19 : Int32) (h0 : Heap) (n0 : Nat) (O0 : Old Z n0 h0) (E_3 : Exa Z h0 a2 "com/example/runqueue/runqueue/Outcome") (F_5 : Fld Z h0 a2 "com/example/runqueue/runqueue/Outcome" "state" "Lcom/example/runqueue/runqueue/Outcome$State;" (.ref a4)) (F_8 : Fld Z h0 a2 "com/example/runqueue/runqueue/Outcome" "job" "Lcom/example/runqueue/runqueue/Job;" (.ref a7)) (E_10 : Exa Z h0 a7 "com/example/runqueue/runqueue/Job") (F_12 : Fld Z h0 a7 "com/example/runqueue/runqueue/Job" "maxAttempts" "I" (.int p11)) (hc14 : (0 : Int32) < p11) (S_17 : Sta Z Z.heap "com/example/runqueue/runqueue/Outcome$State" "FAILED" "Lcom/example/runqueue/runqueue/Outcome$State;" (.ref a4)) (F_20 : Fld Z h0 a2 "com/example/runqueue/runqueue/Outcome" "attempts" "I" (.int p19)) (hc22 : p19 < p11) :
    MetFree l (⟨"com/example/runqueue/runqueue/Retries", "again", "(Lcom/example/runqueue/runqueue/Outcome;)Z"⟩ : MethodName) (head1 (Jvm.Cond.code (⟨"com/example/runqueue/runqueue/Retries", "again", "(Lcom/example/runqueue/runqueue/Outcome;)Z"⟩ : MethodName) prog_36_method_2_code 4 (some .boolean) :: ws) ({ frames := 1, cells := 0, slots := 0, locals := 12 } : Room)) (fun a U => a = #[(.ref a1), (.ref a2)] ∧ Z.Warmed39 U.vm ∧ U.heap = h0) (fun _ _ _ _ _ => True) (fun _ U o U' => ∃ v L, o = .returned v ∧ Qrm7_2 Z a1 a2 a4 a7 p11 p19 h0 n0 v U'.heap L ∧ FrameEnd U o U' L ({ frames := 1, cells := 0, slots := 0, locals := 12 } : Room).cells ({ frames := 1, cells := 0, slots := 0, locals := 12 } : Room).slots) := by
  refine MetFree.of_bodySF (plainFor_of_name pn_8) hisR ?_
  intro p e s m args below meth c s₁ Bd hml0 hP hK
  obtain ⟨rfl, hZ, hh⟩ := hP
  have hx := Bd.exec
  have hby := Bd.bytes
  have hml : c.maxLocals = 4 := hml0
  have hown : s.vm.findClass "com/example/runqueue/runqueue/Retries" = some m.cls := findClass_of_methodNamed Bd.named
  have hnm := (name_of_methodNamed Bd.named Bd.method).1
  have X0 : Stand p l e ({ frames := 1, cells := 0, slots := 0, locals := 12 } : Room) s m #[(.ref a1), (.ref a2)] below meth c s₁ [] 0 0 := Stand.of_body Bd
  have e0 : s₁.heap = h0 := by rw [← hh, Bd.state]; rfl
  have N0 := Fr.nil n0
  have pre0 : ∀ t, Steps p.tables e below (s₁.setTop (mkF m 0 #[.val (.ref a1), .val (.ref a2), .unset, .unset] [])) t → Steps p.tables e below (s₁.setTop (entryFrame m #[(.ref a1), (.ref a2)] 4)) t := fun t k => castTop (ef_7_RR m a1 a2) k
  obtain ⟨cq6, kq6, q6a, q6b, q6c⟩ := isOf hZ e0 E_3
  obtain ⟨_, _, ⟨T6, L6, k6, n6⟩, -, X6, ⟨Lc6, hQ6, l6, y6, z6⟩, st6⟩ := X0.virtualBack hx (y := (⟨"com/example/runqueue/runqueue/Outcome", "state", "()Lcom/example/runqueue/runqueue/Outcome$State;"⟩ : MethodName)) (z := (⟨"com/example/runqueue/runqueue/Outcome", "state", "()Lcom/example/runqueue/runqueue/Outcome$State;"⟩ : MethodName)) hown (mvT hZ (hw _ (List.mem_of_getElem? (i := 74) rfl))) (mvT hZ (hw _ (List.mem_of_getElem? (i := 75) rfl))) (notFace_of_selects (args := #[]) (mvT hZ (hw _ (List.mem_of_getElem? (i := 77) rfl)))) (mvT hZ (hw _ (List.mem_of_getElem? (i := 77) rfl))) (mvT hZ (hw _ (List.mem_of_getElem? (i := 76) rfl))) (by decide) (backOf (W := 0) (rm8 l Z a0 hw [] a2 a4 h0 n0 O0 F_5) hZ (hw _ (List.mem_of_getElem? (i := 78) rfl)) (hw _ (List.mem_of_getElem? (i := 45) rfl)) (by decide) (by decide)) q6a q6c (g := (mkF m 1 #[.val (.ref a1), .val (.ref a2), .unset, .unset] [(.ref a2)])) rfl (by rw [hml]; rfl) (Steps.refl _) (argsL := []) (rest := []) (lenOf pd_10 rfl) rfl (by show 2 * 0 + _ ≤ _; exact Nat.le_of_eq rfl) (hb hby d7_1) (fun _ _ => ⟨rfl, e0, (by decide : 0 + 0 ≤ _), (by decide : 0 + 0 ≤ _)⟩)
  dsimp only [Pt.U, Pt.locs, Pt.cells, Pt.slots] at X6 l6 y6 z6 st6 hQ6
  subst l6 y6 z6
  obtain ⟨rfl, Nq6, e6⟩ := hQ6
  have N6 := Fr.app N0 Nq6
  obtain ⟨cq9, kq9, q9a, q9b, q9c⟩ := isOf hZ e6 E_3
  obtain ⟨_, _, ⟨T9, L9, k9, n9⟩, -, X9, ⟨Lc9, hQ9, l9, y9, z9⟩, st9⟩ := X6.virtualBack hx (y := (⟨"com/example/runqueue/runqueue/Outcome", "job", "()Lcom/example/runqueue/runqueue/Job;"⟩ : MethodName)) (z := (⟨"com/example/runqueue/runqueue/Outcome", "job", "()Lcom/example/runqueue/runqueue/Job;"⟩ : MethodName)) hown (mvT hZ (hw _ (List.mem_of_getElem? (i := 79) rfl))) (mvT hZ (hw _ (List.mem_of_getElem? (i := 80) rfl))) (notFace_of_selects (args := #[]) (mvT hZ (hw _ (List.mem_of_getElem? (i := 82) rfl)))) (mvT hZ (hw _ (List.mem_of_getElem? (i := 82) rfl))) (mvT hZ (hw _ (List.mem_of_getElem? (i := 81) rfl))) (by decide) (backOf (W := 0) (rm9 l Z a0 hw [] a2 a7 h0 n0 O0 F_8) hZ (hw _ (List.mem_of_getElem? (i := 83) rfl)) (hw _ (List.mem_of_getElem? (i := 45) rfl)) (by decide) (by decide)) q9a q9c (g := (mkF m 6 #[.val (.ref a1), .val (.ref a2), .val (.ref a4), .unset] [(.ref a2)])) rfl (by rw [hml]; rfl) (Steps.refl _) (argsL := []) (rest := []) (lenOf pd_11 rfl) rfl (by show 2 * 0 + _ ≤ _; exact Nat.le_of_eq rfl) (hb hby d7_6) (fun _ _ => ⟨rfl, e6, (by decide : 0 + 0 ≤ _), (by decide : 0 + 0 ≤ _)⟩)
  dsimp only [Pt.U, Pt.locs, Pt.cells, Pt.slots] at X9 l9 y9 z9 st9 hQ9
  subst l9 y9 z9
  obtain ⟨rfl, Nq9, e9⟩ := hQ9
  have N9 := Fr.app N6 Nq9
  obtain ⟨cq13, kq13, q13a, q13b, q13c⟩ := isOf hZ e9 E_10
  obtain ⟨_, _, ⟨T13, L13, k13, n13⟩, -, X13, ⟨Lc13, hQ13, l13, y13, z13⟩, st13⟩ := X9.virtualBack hx (y := (⟨"com/example/runqueue/runqueue/Job", "maxAttempts", "()I"⟩ : MethodName)) (z := (⟨"com/example/runqueue/runqueue/Job", "maxAttempts", "()I"⟩ : MethodName)) hown (mvT hZ (hw _ (List.mem_of_getElem? (i := 84) rfl))) (mvT hZ (hw _ (List.mem_of_getElem? (i := 85) rfl))) (notFace_of_selects (args := #[]) (mvT hZ (hw _ (List.mem_of_getElem? (i := 87) rfl)))) (mvT hZ (hw _ (List.mem_of_getElem? (i := 87) rfl))) (mvT hZ (hw _ (List.mem_of_getElem? (i := 86) rfl))) (by decide) (backOf (W := 0) (rm10 l Z a0 hw [] a7 p11 h0 n0 O0 F_12) hZ (hw _ (List.mem_of_getElem? (i := 88) rfl)) (hw _ (List.mem_of_getElem? (i := 6) rfl)) (by decide) (by decide)) q13a q13c (g := (mkF m 9 #[.val (.ref a1), .val (.ref a2), .val (.ref a4), .unset] [(.ref a7)])) rfl (by rw [hml]; rfl) (Steps.refl _) (argsL := []) (rest := []) (lenOf pd_12 rfl) rfl (by show 2 * 0 + _ ≤ _; exact Nat.le_of_eq rfl) (hb hby d7_9) (fun _ _ => ⟨rfl, e9, (by decide : 0 + 0 ≤ _), (by decide : 0 + 0 ≤ _)⟩)
  dsimp only [Pt.U, Pt.locs, Pt.cells, Pt.slots] at X13 l13 y13 z13 st13 hQ13
  subst l13 y13 z13
  obtain ⟨rfl, Nq13, e13⟩ := hQ13
  have N13 := Fr.app N9 Nq13
  obtain ⟨cq15, kq15, q15a, q15b, q15c⟩ := isOf hZ e13 E_3
  obtain ⟨_, _, ⟨T15, L15, k15, n15⟩, -, X15, ⟨Lc15, hQ15, l15, y15, z15⟩, st15⟩ := X13.virtualBack hx (y := (⟨"com/example/runqueue/runqueue/Outcome", "job", "()Lcom/example/runqueue/runqueue/Job;"⟩ : MethodName)) (z := (⟨"com/example/runqueue/runqueue/Outcome", "job", "()Lcom/example/runqueue/runqueue/Job;"⟩ : MethodName)) hown (mvT hZ (hw _ (List.mem_of_getElem? (i := 79) rfl))) (mvT hZ (hw _ (List.mem_of_getElem? (i := 80) rfl))) (notFace_of_selects (args := #[]) (mvT hZ (hw _ (List.mem_of_getElem? (i := 82) rfl)))) (mvT hZ (hw _ (List.mem_of_getElem? (i := 82) rfl))) (mvT hZ (hw _ (List.mem_of_getElem? (i := 81) rfl))) (by decide) (backOf (W := 0) (rm9 l Z a0 hw [] a2 a7 h0 n0 O0 F_8) hZ (hw _ (List.mem_of_getElem? (i := 83) rfl)) (hw _ (List.mem_of_getElem? (i := 45) rfl)) (by decide) (by decide)) q15a q15c (g := (mkF m 16 #[.val (.ref a1), .val (.ref a2), .val (.ref a4), .unset] [(.ref a2)])) rfl (by rw [hml]; rfl) (Steps.refl _) (argsL := []) (rest := []) (lenOf pd_11 rfl) rfl (by show 2 * 0 + _ ≤ _; exact Nat.le_of_eq rfl) (hb hby d7_16) (fun _ _ => ⟨rfl, e13, (by decide : 0 + 0 ≤ _), (by decide : 0 + 0 ≤ _)⟩)
  dsimp only [Pt.U, Pt.locs, Pt.cells, Pt.slots] at X15 l15 y15 z15 st15 hQ15
  subst l15 y15 z15
  obtain ⟨rfl, Nq15, e15⟩ := hQ15
  have N15 := Fr.app N13 Nq15
  obtain ⟨cq16, kq16, q16a, q16b, q16c⟩ := isOf hZ e15 E_10
  obtain ⟨_, _, ⟨T16, L16, k16, n16⟩, -, X16, ⟨Lc16, hQ16, l16, y16, z16⟩, st16⟩ := X15.virtualBack hx (y := (⟨"com/example/runqueue/runqueue/Job", "maxAttempts", "()I"⟩ : MethodName)) (z := (⟨"com/example/runqueue/runqueue/Job", "maxAttempts", "()I"⟩ : MethodName)) hown (mvT hZ (hw _ (List.mem_of_getElem? (i := 84) rfl))) (mvT hZ (hw _ (List.mem_of_getElem? (i := 85) rfl))) (notFace_of_selects (args := #[]) (mvT hZ (hw _ (List.mem_of_getElem? (i := 87) rfl)))) (mvT hZ (hw _ (List.mem_of_getElem? (i := 87) rfl))) (mvT hZ (hw _ (List.mem_of_getElem? (i := 86) rfl))) (by decide) (backOf (W := 0) (rm10 l Z a0 hw [] a7 p11 h0 n0 O0 F_12) hZ (hw _ (List.mem_of_getElem? (i := 88) rfl)) (hw _ (List.mem_of_getElem? (i := 6) rfl)) (by decide) (by decide)) q16a q16c (g := (mkF m 19 #[.val (.ref a1), .val (.ref a2), .val (.ref a4), .unset] [(.ref a7)])) rfl (by rw [hml]; rfl) (Steps.refl _) (argsL := []) (rest := []) (lenOf pd_12 rfl) rfl (by show 2 * 0 + _ ≤ _; exact Nat.le_of_eq rfl) (hb hby d7_19) (fun _ _ => ⟨rfl, e15, (by decide : 0 + 0 ≤ _), (by decide : 0 + 0 ≤ _)⟩)
  dsimp only [Pt.U, Pt.locs, Pt.cells, Pt.slots] at X16 l16 y16 z16 st16 hQ16
  subst l16 y16 z16
  obtain ⟨rfl, Nq16, e16⟩ := hQ16
  have N16 := Fr.app N15 Nq16
  obtain ⟨T18, X18, e18, st18⟩ := getS2 X16 hx hZ hown (host := "") (Or.inl (hw _ (List.mem_of_getElem? (i := 89) rfl))) Via.refl e16 (S_17.ext O0.2) (g := (mkF m 33 #[.val (.ref a1), .val (.ref a2), .val (.ref a4), .val (.int p11)] [(.ref a4)])) rfl (hb hby d7_33)
  obtain ⟨cq21, kq21, q21a, q21b, q21c⟩ := isOf hZ e18 E_3
  obtain ⟨_, _, ⟨T21, L21, k21, n21⟩, -, X21, ⟨Lc21, hQ21, l21, y21, z21⟩, st21⟩ := X18.virtualBack hx (y := (⟨"com/example/runqueue/runqueue/Outcome", "attempts", "()I"⟩ : MethodName)) (z := (⟨"com/example/runqueue/runqueue/Outcome", "attempts", "()I"⟩ : MethodName)) hown (mvT hZ (hw _ (List.mem_of_getElem? (i := 94) rfl))) (mvT hZ (hw _ (List.mem_of_getElem? (i := 95) rfl))) (notFace_of_selects (args := #[]) (mvT hZ (hw _ (List.mem_of_getElem? (i := 97) rfl)))) (mvT hZ (hw _ (List.mem_of_getElem? (i := 97) rfl))) (mvT hZ (hw _ (List.mem_of_getElem? (i := 96) rfl))) (by decide) (backOf (W := 0) (rm11 l Z a0 hw [] a2 p19 h0 n0 O0 F_20) hZ (hw _ (List.mem_of_getElem? (i := 98) rfl)) (hw _ (List.mem_of_getElem? (i := 45) rfl)) (by decide) (by decide)) q21a q21c (g := (mkF m 47 #[.val (.ref a1), .val (.ref a2), .val (.ref a4), .val (.int p11)] [(.ref a2)])) rfl (by rw [hml]; rfl) (Steps.refl _) (argsL := []) (rest := []) (lenOf pd_12 rfl) rfl (by show 2 * 0 + _ ≤ _; exact Nat.le_of_eq rfl) (hb hby d7_47) (fun _ _ => ⟨rfl, e18, (by decide : 0 + 0 ≤ _), (by decide : 0 + 0 ≤ _)⟩)
  dsimp only [Pt.U, Pt.locs, Pt.cells, Pt.slots] at X21 l21 y21 z21 st21 hQ21
  subst l21 y21 z21
  obtain ⟨rfl, Nq21, e21⟩ := hQ21
  have N21 := Fr.app N16 Nq21
  obtain ⟨fs, hr, hrun, hended, hW, hsame⟩ := X21.leave (v := some (.int (1 : Int32))) (fun h => by rw [Bd.returns] at h; cases h)
  refine ⟨_, _, pre0 _ ?_, hrun, hended, _, _, rfl, ?_, ⟨_, rfl⟩, hW, hsame.mono (by decide) (by decide)⟩
  · show Steps p.tables e below (s₁.setTop (mkF m 0 #[.val (.ref a1), .val (.ref a2), .unset, .unset] [])) _
    refine XS.aloadN X0.here hx rfl (hb hby d7_0) rfl rfl ?_
    show Steps p.tables e below (s₁.setTop (mkF m 1 #[.val (.ref a1), .val (.ref a2), .unset, .unset] [(.ref a2)])) _
    refine st6.trans ?_
    show Steps p.tables e below (T6.setTop (mkF m 4 #[.val (.ref a1), .val (.ref a2), .unset, .unset] [(.ref a4)])) _
    refine XS.astoreN X6.here hx rfl (hb hby d7_4) rfl rfl (l' := #[.val (.ref a1), .val (.ref a2), .val (.ref a4), .unset]) rfl ?_
    refine XS.aloadN X6.here hx rfl (hb hby d7_5) rfl rfl ?_
    show Steps p.tables e below (T6.setTop (mkF m 6 #[.val (.ref a1), .val (.ref a2), .val (.ref a4), .unset] [(.ref a2)])) _
    refine st9.trans ?_
    show Steps p.tables e below (T9.setTop (mkF m 9 #[.val (.ref a1), .val (.ref a2), .val (.ref a4), .unset] [(.ref a7)])) _
    refine st13.trans ?_
    show Steps p.tables e below (T13.setTop (mkF m 12 #[.val (.ref a1), .val (.ref a2), .val (.ref a4), .unset] [(.int p11)])) _
    refine XS.ifNo X13.here hx rfl (hb hby d7_12) rfl ((if0 _ _).trans (tlt (hc14 : (0 : Int32) < p11)).2.2.2) ?_
    refine XS.aloadN X13.here hx rfl (hb hby d7_15) rfl rfl ?_
    show Steps p.tables e below (T13.setTop (mkF m 16 #[.val (.ref a1), .val (.ref a2), .val (.ref a4), .unset] [(.ref a2)])) _
    refine st15.trans ?_
    show Steps p.tables e below (T15.setTop (mkF m 19 #[.val (.ref a1), .val (.ref a2), .val (.ref a4), .unset] [(.ref a7)])) _
    refine st16.trans ?_
    show Steps p.tables e below (T16.setTop (mkF m 22 #[.val (.ref a1), .val (.ref a2), .val (.ref a4), .unset] [(.int p11)])) _
    refine XS.goto X16.here hx rfl (pc0 := 22) (pc' := 31) rfl (hb hby d7_22) (by decide) (by decide) ?_
    refine XS.istoreN X16.here hx rfl (hb hby d7_31) rfl (l' := #[.val (.ref a1), .val (.ref a2), .val (.ref a4), .val (.int p11)]) rfl ?_
    refine XS.aloadN X16.here hx rfl (hb hby d7_32) rfl rfl ?_
    show Steps p.tables e below (T16.setTop (mkF m 33 #[.val (.ref a1), .val (.ref a2), .val (.ref a4), .val (.int p11)] [(.ref a4)])) _
    refine st18 _ ?_
    show Steps p.tables e below (T18.setTop (mkF m 36 #[.val (.ref a1), .val (.ref a2), .val (.ref a4), .val (.int p11)] [(.ref a4), (.ref a4)])) _
    refine Jvm.RoadKit.acmp (g := (mkF m 36 #[.val (.ref a1), .val (.ref a2), .val (.ref a4), .val (.int p11)] [(.ref a4), (.ref a4)])) X18 hx rfl rfl rfl (pc0 := 36) (pc' := 46) (same := true) rfl (hb hby d7_36) rfl (decide_eq_true rfl) (by decide) (by decide) ?_
    refine XS.aloadN X18.here hx rfl (hb hby d7_46) rfl rfl ?_
    show Steps p.tables e below (T18.setTop (mkF m 47 #[.val (.ref a1), .val (.ref a2), .val (.ref a4), .val (.int p11)] [(.ref a2)])) _
    refine st21.trans ?_
    show Steps p.tables e below (T21.setTop (mkF m 50 #[.val (.ref a1), .val (.ref a2), .val (.ref a4), .val (.int p11)] [(.int p19)])) _
    refine XS.iloadN X21.here hx rfl (hb hby d7_50) rfl ?_
    show Steps p.tables e below (T21.setTop (mkF m 51 #[.val (.ref a1), .val (.ref a2), .val (.ref a4), .val (.int p11)] [(.int p11), (.int p19)])) _
    refine XS.icmpNo X21.here hx rfl (hb hby d7_51) rfl (tlt (hc22 : p19 < p11)).2.1 ?_
    refine XS.iconst X21.here hx rfl (hb hby d7_54) ?_
    refine XS.goto X21.here hx rfl (pc0 := 55) (pc' := 59) rfl (hb hby d7_55) (by decide) (by decide) ?_
    show Steps p.tables e below (T21.setTop (mkF m 59 #[.val (.ref a1), .val (.ref a2), .val (.ref a4), .val (.int p11)] [(.int (1 : Int32))])) _
    exact retN X21 hx (t := .boolean) Bd.returns (by simp) (hb hby d7_59) hr
  · show Qrm7_2 Z a1 a2 a4 a7 p11 p19 h0 n0 _ T21.heap _
    rw [e21]
    exact ⟨rfl, N21, rfl⟩
def Qrm7_3 (Z : State) (a1 : Addr) (a2 : Addr) (a4 : Addr) (a7 : Addr) (p11 : Int32) (p19 : Int32) (h0 : Heap) (n0 : Nat) (v : Option Value) (h : Heap) (L : List Loc) : Prop := v = some (.int (0 : Int32)) ∧ Fr n0 L ∧ h = h0
set_option maxRecDepth 65536 in
set_option maxHeartbeats 40000000 in
theorem rm7_3 (l : Launch) (Z : State) (a0 : Array Value) (hw : ∀ d ∈ tables_1, d.before a0 Z = true) (ws : List Jvm.Cond) (a1 : Addr) (a2 : Addr) (a4 : Addr) (a7 : Addr) (p11 : Int32) (p19 : Int32) (h0 : Heap) (n0 : Nat) (O0 : Old Z n0 h0) (E_3 : Exa Z h0 a2 "com/example/runqueue/runqueue/Outcome") (F_5 : Fld Z h0 a2 "com/example/runqueue/runqueue/Outcome" "state" "Lcom/example/runqueue/runqueue/Outcome$State;" (.ref a4)) (F_8 : Fld Z h0 a2 "com/example/runqueue/runqueue/Outcome" "job" "Lcom/example/runqueue/runqueue/Job;" (.ref a7)) (E_10 : Exa Z h0 a7 "com/example/runqueue/runqueue/Job") (F_12 : Fld Z h0 a7 "com/example/runqueue/runqueue/Job" "maxAttempts" "I" (.int p11)) (hc14 : (0 : Int32) < p11) (S_17 : Sta Z Z.heap "com/example/runqueue/runqueue/Outcome$State" "FAILED" "Lcom/example/runqueue/runqueue/Outcome$State;" (.ref a4)) (F_20 : Fld Z h0 a2 "com/example/runqueue/runqueue/Outcome" "attempts" "I" (.int p19)) (hc22 : ¬ (p19 < p11)) :
    MetFree l (⟨"com/example/runqueue/runqueue/Retries", "again", "(Lcom/example/runqueue/runqueue/Outcome;)Z"⟩ : MethodName) (head1 (Jvm.Cond.code (⟨"com/example/runqueue/runqueue/Retries", "again", "(Lcom/example/runqueue/runqueue/Outcome;)Z"⟩ : MethodName) prog_36_method_2_code 4 (some .boolean) :: ws) ({ frames := 1, cells := 0, slots := 0, locals := 12 } : Room)) (fun a U => a = #[(.ref a1), (.ref a2)] ∧ Z.Warmed39 U.vm ∧ U.heap = h0) (fun _ _ _ _ _ => True) (fun _ U o U' => ∃ v L, o = .returned v ∧ Qrm7_3 Z a1 a2 a4 a7 p11 p19 h0 n0 v U'.heap L ∧ FrameEnd U o U' L ({ frames := 1, cells := 0, slots := 0, locals := 12 } : Room).cells ({ frames := 1, cells := 0, slots := 0, locals := 12 } : Room).slots) := by
  refine MetFree.of_bodySF (plainFor_of_name pn_8) hisR ?_
  intro p e s m args below meth c s₁ Bd hml0 hP hK
  obtain ⟨rfl, hZ, hh⟩ := hP
  have hx := Bd.exec
  have hby := Bd.bytes
  have hml : c.maxLocals = 4 := hml0
  have hown : s.vm.findClass "com/example/runqueue/runqueue/Retries" = some m.cls := findClass_of_methodNamed Bd.named
  have hnm := (name_of_methodNamed Bd.named Bd.method).1
  have X0 : Stand p l e ({ frames := 1, cells := 0, slots := 0, locals := 12 } : Room) s m #[(.ref a1), (.ref a2)] below meth c s₁ [] 0 0 := Stand.of_body Bd
  have e0 : s₁.heap = h0 := by rw [← hh, Bd.state]; rfl
  have N0 := Fr.nil n0
  have pre0 : ∀ t, Steps p.tables e below (s₁.setTop (mkF m 0 #[.val (.ref a1), .val (.ref a2), .unset, .unset] [])) t → Steps p.tables e below (s₁.setTop (entryFrame m #[(.ref a1), (.ref a2)] 4)) t := fun t k => castTop (ef_7_RR m a1 a2) k
  obtain ⟨cq6, kq6, q6a, q6b, q6c⟩ := isOf hZ e0 E_3
  obtain ⟨_, _, ⟨T6, L6, k6, n6⟩, -, X6, ⟨Lc6, hQ6, l6, y6, z6⟩, st6⟩ := X0.virtualBack hx (y := (⟨"com/example/runqueue/runqueue/Outcome", "state", "()Lcom/example/runqueue/runqueue/Outcome$State;"⟩ : MethodName)) (z := (⟨"com/example/runqueue/runqueue/Outcome", "state", "()Lcom/example/runqueue/runqueue/Outcome$State;"⟩ : MethodName)) hown (mvT hZ (hw _ (List.mem_of_getElem? (i := 74) rfl))) (mvT hZ (hw _ (List.mem_of_getElem? (i := 75) rfl))) (notFace_of_selects (args := #[]) (mvT hZ (hw _ (List.mem_of_getElem? (i := 77) rfl)))) (mvT hZ (hw _ (List.mem_of_getElem? (i := 77) rfl))) (mvT hZ (hw _ (List.mem_of_getElem? (i := 76) rfl))) (by decide) (backOf (W := 0) (rm8 l Z a0 hw [] a2 a4 h0 n0 O0 F_5) hZ (hw _ (List.mem_of_getElem? (i := 78) rfl)) (hw _ (List.mem_of_getElem? (i := 45) rfl)) (by decide) (by decide)) q6a q6c (g := (mkF m 1 #[.val (.ref a1), .val (.ref a2), .unset, .unset] [(.ref a2)])) rfl (by rw [hml]; rfl) (Steps.refl _) (argsL := []) (rest := []) (lenOf pd_10 rfl) rfl (by show 2 * 0 + _ ≤ _; exact Nat.le_of_eq rfl) (hb hby d7_1) (fun _ _ => ⟨rfl, e0, (by decide : 0 + 0 ≤ _), (by decide : 0 + 0 ≤ _)⟩)
  dsimp only [Pt.U, Pt.locs, Pt.cells, Pt.slots] at X6 l6 y6 z6 st6 hQ6
  subst l6 y6 z6
  obtain ⟨rfl, Nq6, e6⟩ := hQ6
  have N6 := Fr.app N0 Nq6
  obtain ⟨cq9, kq9, q9a, q9b, q9c⟩ := isOf hZ e6 E_3
  obtain ⟨_, _, ⟨T9, L9, k9, n9⟩, -, X9, ⟨Lc9, hQ9, l9, y9, z9⟩, st9⟩ := X6.virtualBack hx (y := (⟨"com/example/runqueue/runqueue/Outcome", "job", "()Lcom/example/runqueue/runqueue/Job;"⟩ : MethodName)) (z := (⟨"com/example/runqueue/runqueue/Outcome", "job", "()Lcom/example/runqueue/runqueue/Job;"⟩ : MethodName)) hown (mvT hZ (hw _ (List.mem_of_getElem? (i := 79) rfl))) (mvT hZ (hw _ (List.mem_of_getElem? (i := 80) rfl))) (notFace_of_selects (args := #[]) (mvT hZ (hw _ (List.mem_of_getElem? (i := 82) rfl)))) (mvT hZ (hw _ (List.mem_of_getElem? (i := 82) rfl))) (mvT hZ (hw _ (List.mem_of_getElem? (i := 81) rfl))) (by decide) (backOf (W := 0) (rm9 l Z a0 hw [] a2 a7 h0 n0 O0 F_8) hZ (hw _ (List.mem_of_getElem? (i := 83) rfl)) (hw _ (List.mem_of_getElem? (i := 45) rfl)) (by decide) (by decide)) q9a q9c (g := (mkF m 6 #[.val (.ref a1), .val (.ref a2), .val (.ref a4), .unset] [(.ref a2)])) rfl (by rw [hml]; rfl) (Steps.refl _) (argsL := []) (rest := []) (lenOf pd_11 rfl) rfl (by show 2 * 0 + _ ≤ _; exact Nat.le_of_eq rfl) (hb hby d7_6) (fun _ _ => ⟨rfl, e6, (by decide : 0 + 0 ≤ _), (by decide : 0 + 0 ≤ _)⟩)
  dsimp only [Pt.U, Pt.locs, Pt.cells, Pt.slots] at X9 l9 y9 z9 st9 hQ9
  subst l9 y9 z9
  obtain ⟨rfl, Nq9, e9⟩ := hQ9
  have N9 := Fr.app N6 Nq9
  obtain ⟨cq13, kq13, q13a, q13b, q13c⟩ := isOf hZ e9 E_10
  obtain ⟨_, _, ⟨T13, L13, k13, n13⟩, -, X13, ⟨Lc13, hQ13, l13, y13, z13⟩, st13⟩ := X9.virtualBack hx (y := (⟨"com/example/runqueue/runqueue/Job", "maxAttempts", "()I"⟩ : MethodName)) (z := (⟨"com/example/runqueue/runqueue/Job", "maxAttempts", "()I"⟩ : MethodName)) hown (mvT hZ (hw _ (List.mem_of_getElem? (i := 84) rfl))) (mvT hZ (hw _ (List.mem_of_getElem? (i := 85) rfl))) (notFace_of_selects (args := #[]) (mvT hZ (hw _ (List.mem_of_getElem? (i := 87) rfl)))) (mvT hZ (hw _ (List.mem_of_getElem? (i := 87) rfl))) (mvT hZ (hw _ (List.mem_of_getElem? (i := 86) rfl))) (by decide) (backOf (W := 0) (rm10 l Z a0 hw [] a7 p11 h0 n0 O0 F_12) hZ (hw _ (List.mem_of_getElem? (i := 88) rfl)) (hw _ (List.mem_of_getElem? (i := 6) rfl)) (by decide) (by decide)) q13a q13c (g := (mkF m 9 #[.val (.ref a1), .val (.ref a2), .val (.ref a4), .unset] [(.ref a7)])) rfl (by rw [hml]; rfl) (Steps.refl _) (argsL := []) (rest := []) (lenOf pd_12 rfl) rfl (by show 2 * 0 + _ ≤ _; exact Nat.le_of_eq rfl) (hb hby d7_9) (fun _ _ => ⟨rfl, e9, (by decide : 0 + 0 ≤ _), (by decide : 0 + 0 ≤ _)⟩)
  dsimp only [Pt.U, Pt.locs, Pt.cells, Pt.slots] at X13 l13 y13 z13 st13 hQ13
  subst l13 y13 z13
  obtain ⟨rfl, Nq13, e13⟩ := hQ13
  have N13 := Fr.app N9 Nq13
  obtain ⟨cq15, kq15, q15a, q15b, q15c⟩ := isOf hZ e13 E_3
  obtain ⟨_, _, ⟨T15, L15, k15, n15⟩, -, X15, ⟨Lc15, hQ15, l15, y15, z15⟩, st15⟩ := X13.virtualBack hx (y := (⟨"com/example/runqueue/runqueue/Outcome", "job", "()Lcom/example/runqueue/runqueue/Job;"⟩ : MethodName)) (z := (⟨"com/example/runqueue/runqueue/Outcome", "job", "()Lcom/example/runqueue/runqueue/Job;"⟩ : MethodName)) hown (mvT hZ (hw _ (List.mem_of_getElem? (i := 79) rfl))) (mvT hZ (hw _ (List.mem_of_getElem? (i := 80) rfl))) (notFace_of_selects (args := #[]) (mvT hZ (hw _ (List.mem_of_getElem? (i := 82) rfl)))) (mvT hZ (hw _ (List.mem_of_getElem? (i := 82) rfl))) (mvT hZ (hw _ (List.mem_of_getElem? (i := 81) rfl))) (by decide) (backOf (W := 0) (rm9 l Z a0 hw [] a2 a7 h0 n0 O0 F_8) hZ (hw _ (List.mem_of_getElem? (i := 83) rfl)) (hw _ (List.mem_of_getElem? (i := 45) rfl)) (by decide) (by decide)) q15a q15c (g := (mkF m 16 #[.val (.ref a1), .val (.ref a2), .val (.ref a4), .unset] [(.ref a2)])) rfl (by rw [hml]; rfl) (Steps.refl _) (argsL := []) (rest := []) (lenOf pd_11 rfl) rfl (by show 2 * 0 + _ ≤ _; exact Nat.le_of_eq rfl) (hb hby d7_16) (fun _ _ => ⟨rfl, e13, (by decide : 0 + 0 ≤ _), (by decide : 0 + 0 ≤ _)⟩)
  dsimp only [Pt.U, Pt.locs, Pt.cells, Pt.slots] at X15 l15 y15 z15 st15 hQ15
  subst l15 y15 z15
  obtain ⟨rfl, Nq15, e15⟩ := hQ15
  have N15 := Fr.app N13 Nq15
  obtain ⟨cq16, kq16, q16a, q16b, q16c⟩ := isOf hZ e15 E_10
  obtain ⟨_, _, ⟨T16, L16, k16, n16⟩, -, X16, ⟨Lc16, hQ16, l16, y16, z16⟩, st16⟩ := X15.virtualBack hx (y := (⟨"com/example/runqueue/runqueue/Job", "maxAttempts", "()I"⟩ : MethodName)) (z := (⟨"com/example/runqueue/runqueue/Job", "maxAttempts", "()I"⟩ : MethodName)) hown (mvT hZ (hw _ (List.mem_of_getElem? (i := 84) rfl))) (mvT hZ (hw _ (List.mem_of_getElem? (i := 85) rfl))) (notFace_of_selects (args := #[]) (mvT hZ (hw _ (List.mem_of_getElem? (i := 87) rfl)))) (mvT hZ (hw _ (List.mem_of_getElem? (i := 87) rfl))) (mvT hZ (hw _ (List.mem_of_getElem? (i := 86) rfl))) (by decide) (backOf (W := 0) (rm10 l Z a0 hw [] a7 p11 h0 n0 O0 F_12) hZ (hw _ (List.mem_of_getElem? (i := 88) rfl)) (hw _ (List.mem_of_getElem? (i := 6) rfl)) (by decide) (by decide)) q16a q16c (g := (mkF m 19 #[.val (.ref a1), .val (.ref a2), .val (.ref a4), .unset] [(.ref a7)])) rfl (by rw [hml]; rfl) (Steps.refl _) (argsL := []) (rest := []) (lenOf pd_12 rfl) rfl (by show 2 * 0 + _ ≤ _; exact Nat.le_of_eq rfl) (hb hby d7_19) (fun _ _ => ⟨rfl, e15, (by decide : 0 + 0 ≤ _), (by decide : 0 + 0 ≤ _)⟩)
  dsimp only [Pt.U, Pt.locs, Pt.cells, Pt.slots] at X16 l16 y16 z16 st16 hQ16
  subst l16 y16 z16
  obtain ⟨rfl, Nq16, e16⟩ := hQ16
  have N16 := Fr.app N15 Nq16
  obtain ⟨T18, X18, e18, st18⟩ := getS2 X16 hx hZ hown (host := "") (Or.inl (hw _ (List.mem_of_getElem? (i := 89) rfl))) Via.refl e16 (S_17.ext O0.2) (g := (mkF m 33 #[.val (.ref a1), .val (.ref a2), .val (.ref a4), .val (.int p11)] [(.ref a4)])) rfl (hb hby d7_33)
  obtain ⟨cq21, kq21, q21a, q21b, q21c⟩ := isOf hZ e18 E_3
  obtain ⟨_, _, ⟨T21, L21, k21, n21⟩, -, X21, ⟨Lc21, hQ21, l21, y21, z21⟩, st21⟩ := X18.virtualBack hx (y := (⟨"com/example/runqueue/runqueue/Outcome", "attempts", "()I"⟩ : MethodName)) (z := (⟨"com/example/runqueue/runqueue/Outcome", "attempts", "()I"⟩ : MethodName)) hown (mvT hZ (hw _ (List.mem_of_getElem? (i := 94) rfl))) (mvT hZ (hw _ (List.mem_of_getElem? (i := 95) rfl))) (notFace_of_selects (args := #[]) (mvT hZ (hw _ (List.mem_of_getElem? (i := 97) rfl)))) (mvT hZ (hw _ (List.mem_of_getElem? (i := 97) rfl))) (mvT hZ (hw _ (List.mem_of_getElem? (i := 96) rfl))) (by decide) (backOf (W := 0) (rm11 l Z a0 hw [] a2 p19 h0 n0 O0 F_20) hZ (hw _ (List.mem_of_getElem? (i := 98) rfl)) (hw _ (List.mem_of_getElem? (i := 45) rfl)) (by decide) (by decide)) q21a q21c (g := (mkF m 47 #[.val (.ref a1), .val (.ref a2), .val (.ref a4), .val (.int p11)] [(.ref a2)])) rfl (by rw [hml]; rfl) (Steps.refl _) (argsL := []) (rest := []) (lenOf pd_12 rfl) rfl (by show 2 * 0 + _ ≤ _; exact Nat.le_of_eq rfl) (hb hby d7_47) (fun _ _ => ⟨rfl, e18, (by decide : 0 + 0 ≤ _), (by decide : 0 + 0 ≤ _)⟩)
  dsimp only [Pt.U, Pt.locs, Pt.cells, Pt.slots] at X21 l21 y21 z21 st21 hQ21
  subst l21 y21 z21
  obtain ⟨rfl, Nq21, e21⟩ := hQ21
  have N21 := Fr.app N16 Nq21
  obtain ⟨fs, hr, hrun, hended, hW, hsame⟩ := X21.leave (v := some (.int (0 : Int32))) (fun h => by rw [Bd.returns] at h; cases h)
  refine ⟨_, _, pre0 _ ?_, hrun, hended, _, _, rfl, ?_, ⟨_, rfl⟩, hW, hsame.mono (by decide) (by decide)⟩
  · show Steps p.tables e below (s₁.setTop (mkF m 0 #[.val (.ref a1), .val (.ref a2), .unset, .unset] [])) _
    refine XS.aloadN X0.here hx rfl (hb hby d7_0) rfl rfl ?_
    show Steps p.tables e below (s₁.setTop (mkF m 1 #[.val (.ref a1), .val (.ref a2), .unset, .unset] [(.ref a2)])) _
    refine st6.trans ?_
    show Steps p.tables e below (T6.setTop (mkF m 4 #[.val (.ref a1), .val (.ref a2), .unset, .unset] [(.ref a4)])) _
    refine XS.astoreN X6.here hx rfl (hb hby d7_4) rfl rfl (l' := #[.val (.ref a1), .val (.ref a2), .val (.ref a4), .unset]) rfl ?_
    refine XS.aloadN X6.here hx rfl (hb hby d7_5) rfl rfl ?_
    show Steps p.tables e below (T6.setTop (mkF m 6 #[.val (.ref a1), .val (.ref a2), .val (.ref a4), .unset] [(.ref a2)])) _
    refine st9.trans ?_
    show Steps p.tables e below (T9.setTop (mkF m 9 #[.val (.ref a1), .val (.ref a2), .val (.ref a4), .unset] [(.ref a7)])) _
    refine st13.trans ?_
    show Steps p.tables e below (T13.setTop (mkF m 12 #[.val (.ref a1), .val (.ref a2), .val (.ref a4), .unset] [(.int p11)])) _
    refine XS.ifNo X13.here hx rfl (hb hby d7_12) rfl ((if0 _ _).trans (tlt (hc14 : (0 : Int32) < p11)).2.2.2) ?_
    refine XS.aloadN X13.here hx rfl (hb hby d7_15) rfl rfl ?_
    show Steps p.tables e below (T13.setTop (mkF m 16 #[.val (.ref a1), .val (.ref a2), .val (.ref a4), .unset] [(.ref a2)])) _
    refine st15.trans ?_
    show Steps p.tables e below (T15.setTop (mkF m 19 #[.val (.ref a1), .val (.ref a2), .val (.ref a4), .unset] [(.ref a7)])) _
    refine st16.trans ?_
    show Steps p.tables e below (T16.setTop (mkF m 22 #[.val (.ref a1), .val (.ref a2), .val (.ref a4), .unset] [(.int p11)])) _
    refine XS.goto X16.here hx rfl (pc0 := 22) (pc' := 31) rfl (hb hby d7_22) (by decide) (by decide) ?_
    refine XS.istoreN X16.here hx rfl (hb hby d7_31) rfl (l' := #[.val (.ref a1), .val (.ref a2), .val (.ref a4), .val (.int p11)]) rfl ?_
    refine XS.aloadN X16.here hx rfl (hb hby d7_32) rfl rfl ?_
    show Steps p.tables e below (T16.setTop (mkF m 33 #[.val (.ref a1), .val (.ref a2), .val (.ref a4), .val (.int p11)] [(.ref a4)])) _
    refine st18 _ ?_
    show Steps p.tables e below (T18.setTop (mkF m 36 #[.val (.ref a1), .val (.ref a2), .val (.ref a4), .val (.int p11)] [(.ref a4), (.ref a4)])) _
    refine Jvm.RoadKit.acmp (g := (mkF m 36 #[.val (.ref a1), .val (.ref a2), .val (.ref a4), .val (.int p11)] [(.ref a4), (.ref a4)])) X18 hx rfl rfl rfl (pc0 := 36) (pc' := 46) (same := true) rfl (hb hby d7_36) rfl (decide_eq_true rfl) (by decide) (by decide) ?_
    refine XS.aloadN X18.here hx rfl (hb hby d7_46) rfl rfl ?_
    show Steps p.tables e below (T18.setTop (mkF m 47 #[.val (.ref a1), .val (.ref a2), .val (.ref a4), .val (.int p11)] [(.ref a2)])) _
    refine st21.trans ?_
    show Steps p.tables e below (T21.setTop (mkF m 50 #[.val (.ref a1), .val (.ref a2), .val (.ref a4), .val (.int p11)] [(.int p19)])) _
    refine XS.iloadN X21.here hx rfl (hb hby d7_50) rfl ?_
    show Steps p.tables e below (T21.setTop (mkF m 51 #[.val (.ref a1), .val (.ref a2), .val (.ref a4), .val (.int p11)] [(.int p11), (.int p19)])) _
    refine XS.icmpYes X21.here hx rfl (pc0 := 51) (pc' := 58) rfl (hb hby d7_51) rfl (flt (hc22 : ¬ (p19 < p11))).2.1 (by decide) (by decide) ?_
    refine XS.iconst X21.here hx rfl (hb hby d7_58) ?_
    show Steps p.tables e below (T21.setTop (mkF m 59 #[.val (.ref a1), .val (.ref a2), .val (.ref a4), .val (.int p11)] [(.int (0 : Int32))])) _
    exact retN X21 hx (t := .boolean) Bd.returns (by simp) (hb hby d7_59) hr
  · show Qrm7_3 Z a1 a2 a4 a7 p11 p19 h0 n0 _ T21.heap _
    rw [e21]
    exact ⟨rfl, N21, rfl⟩
def Qrm7_4 (Z : State) (a1 : Addr) (a2 : Addr) (a4 : Addr) (a7 : Addr) (p11 : Int32) (p15 : Int32) (p20 : Int32) (h0 : Heap) (n0 : Nat) (v : Option Value) (h : Heap) (L : List Loc) : Prop := v = some (.int (1 : Int32)) ∧ Fr n0 L ∧ h = h0
set_option maxRecDepth 65536 in
set_option maxHeartbeats 40000000 in
theorem rm7_4 (l : Launch) (Z : State) (a0 : Array Value) (hw : ∀ d ∈ tables_1, d.before a0 Z = true) (ws : List Jvm.Cond) (a1 : Addr) (a2 : Addr) (a4 : Addr) (a7 : Addr) (p11 : Int32) (p15 : Int32) (p20 : Int32) (h0 : Heap) (n0 : Nat) (O0 : Old Z n0 h0) (E_3 : Exa Z h0 a2 "com/example/runqueue/runqueue/Outcome") (F_5 : Fld Z h0 a2 "com/example/runqueue/runqueue/Outcome" "state" "Lcom/example/runqueue/runqueue/Outcome$State;" (.ref a4)) (F_8 : Fld Z h0 a2 "com/example/runqueue/runqueue/Outcome" "job" "Lcom/example/runqueue/runqueue/Job;" (.ref a7)) (E_10 : Exa Z h0 a7 "com/example/runqueue/runqueue/Job") (F_12 : Fld Z h0 a7 "com/example/runqueue/runqueue/Job" "maxAttempts" "I" (.int p11)) (hc14 : ¬ ((0 : Int32) < p11)) (F_16 : Fld Z h0 a1 "com/example/runqueue/runqueue/Retries" "count" "I" (.int p15)) (S_18 : Sta Z Z.heap "com/example/runqueue/runqueue/Outcome$State" "FAILED" "Lcom/example/runqueue/runqueue/Outcome$State;" (.ref a4)) (F_21 : Fld Z h0 a2 "com/example/runqueue/runqueue/Outcome" "attempts" "I" (.int p20)) (hc23 : p20 < ((1 : Int32) + p15)) :
    MetFree l (⟨"com/example/runqueue/runqueue/Retries", "again", "(Lcom/example/runqueue/runqueue/Outcome;)Z"⟩ : MethodName) (head1 (Jvm.Cond.code (⟨"com/example/runqueue/runqueue/Retries", "again", "(Lcom/example/runqueue/runqueue/Outcome;)Z"⟩ : MethodName) prog_36_method_2_code 4 (some .boolean) :: ws) ({ frames := 1, cells := 0, slots := 0, locals := 12 } : Room)) (fun a U => a = #[(.ref a1), (.ref a2)] ∧ Z.Warmed39 U.vm ∧ U.heap = h0) (fun _ _ _ _ _ => True) (fun _ U o U' => ∃ v L, o = .returned v ∧ Qrm7_4 Z a1 a2 a4 a7 p11 p15 p20 h0 n0 v U'.heap L ∧ FrameEnd U o U' L ({ frames := 1, cells := 0, slots := 0, locals := 12 } : Room).cells ({ frames := 1, cells := 0, slots := 0, locals := 12 } : Room).slots) := by
  refine MetFree.of_bodySF (plainFor_of_name pn_8) hisR ?_
  intro p e s m args below meth c s₁ Bd hml0 hP hK
  obtain ⟨rfl, hZ, hh⟩ := hP
  have hx := Bd.exec
  have hby := Bd.bytes
  have hml : c.maxLocals = 4 := hml0
  have hown : s.vm.findClass "com/example/runqueue/runqueue/Retries" = some m.cls := findClass_of_methodNamed Bd.named
  have hnm := (name_of_methodNamed Bd.named Bd.method).1
  have X0 : Stand p l e ({ frames := 1, cells := 0, slots := 0, locals := 12 } : Room) s m #[(.ref a1), (.ref a2)] below meth c s₁ [] 0 0 := Stand.of_body Bd
  have e0 : s₁.heap = h0 := by rw [← hh, Bd.state]; rfl
  have N0 := Fr.nil n0
  have pre0 : ∀ t, Steps p.tables e below (s₁.setTop (mkF m 0 #[.val (.ref a1), .val (.ref a2), .unset, .unset] [])) t → Steps p.tables e below (s₁.setTop (entryFrame m #[(.ref a1), (.ref a2)] 4)) t := fun t k => castTop (ef_7_RR m a1 a2) k
  obtain ⟨cq6, kq6, q6a, q6b, q6c⟩ := isOf hZ e0 E_3
  obtain ⟨_, _, ⟨T6, L6, k6, n6⟩, -, X6, ⟨Lc6, hQ6, l6, y6, z6⟩, st6⟩ := X0.virtualBack hx (y := (⟨"com/example/runqueue/runqueue/Outcome", "state", "()Lcom/example/runqueue/runqueue/Outcome$State;"⟩ : MethodName)) (z := (⟨"com/example/runqueue/runqueue/Outcome", "state", "()Lcom/example/runqueue/runqueue/Outcome$State;"⟩ : MethodName)) hown (mvT hZ (hw _ (List.mem_of_getElem? (i := 74) rfl))) (mvT hZ (hw _ (List.mem_of_getElem? (i := 75) rfl))) (notFace_of_selects (args := #[]) (mvT hZ (hw _ (List.mem_of_getElem? (i := 77) rfl)))) (mvT hZ (hw _ (List.mem_of_getElem? (i := 77) rfl))) (mvT hZ (hw _ (List.mem_of_getElem? (i := 76) rfl))) (by decide) (backOf (W := 0) (rm8 l Z a0 hw [] a2 a4 h0 n0 O0 F_5) hZ (hw _ (List.mem_of_getElem? (i := 78) rfl)) (hw _ (List.mem_of_getElem? (i := 45) rfl)) (by decide) (by decide)) q6a q6c (g := (mkF m 1 #[.val (.ref a1), .val (.ref a2), .unset, .unset] [(.ref a2)])) rfl (by rw [hml]; rfl) (Steps.refl _) (argsL := []) (rest := []) (lenOf pd_10 rfl) rfl (by show 2 * 0 + _ ≤ _; exact Nat.le_of_eq rfl) (hb hby d7_1) (fun _ _ => ⟨rfl, e0, (by decide : 0 + 0 ≤ _), (by decide : 0 + 0 ≤ _)⟩)
  dsimp only [Pt.U, Pt.locs, Pt.cells, Pt.slots] at X6 l6 y6 z6 st6 hQ6
  subst l6 y6 z6
  obtain ⟨rfl, Nq6, e6⟩ := hQ6
  have N6 := Fr.app N0 Nq6
  obtain ⟨cq9, kq9, q9a, q9b, q9c⟩ := isOf hZ e6 E_3
  obtain ⟨_, _, ⟨T9, L9, k9, n9⟩, -, X9, ⟨Lc9, hQ9, l9, y9, z9⟩, st9⟩ := X6.virtualBack hx (y := (⟨"com/example/runqueue/runqueue/Outcome", "job", "()Lcom/example/runqueue/runqueue/Job;"⟩ : MethodName)) (z := (⟨"com/example/runqueue/runqueue/Outcome", "job", "()Lcom/example/runqueue/runqueue/Job;"⟩ : MethodName)) hown (mvT hZ (hw _ (List.mem_of_getElem? (i := 79) rfl))) (mvT hZ (hw _ (List.mem_of_getElem? (i := 80) rfl))) (notFace_of_selects (args := #[]) (mvT hZ (hw _ (List.mem_of_getElem? (i := 82) rfl)))) (mvT hZ (hw _ (List.mem_of_getElem? (i := 82) rfl))) (mvT hZ (hw _ (List.mem_of_getElem? (i := 81) rfl))) (by decide) (backOf (W := 0) (rm9 l Z a0 hw [] a2 a7 h0 n0 O0 F_8) hZ (hw _ (List.mem_of_getElem? (i := 83) rfl)) (hw _ (List.mem_of_getElem? (i := 45) rfl)) (by decide) (by decide)) q9a q9c (g := (mkF m 6 #[.val (.ref a1), .val (.ref a2), .val (.ref a4), .unset] [(.ref a2)])) rfl (by rw [hml]; rfl) (Steps.refl _) (argsL := []) (rest := []) (lenOf pd_11 rfl) rfl (by show 2 * 0 + _ ≤ _; exact Nat.le_of_eq rfl) (hb hby d7_6) (fun _ _ => ⟨rfl, e6, (by decide : 0 + 0 ≤ _), (by decide : 0 + 0 ≤ _)⟩)
  dsimp only [Pt.U, Pt.locs, Pt.cells, Pt.slots] at X9 l9 y9 z9 st9 hQ9
  subst l9 y9 z9
  obtain ⟨rfl, Nq9, e9⟩ := hQ9
  have N9 := Fr.app N6 Nq9
  obtain ⟨cq13, kq13, q13a, q13b, q13c⟩ := isOf hZ e9 E_10
  obtain ⟨_, _, ⟨T13, L13, k13, n13⟩, -, X13, ⟨Lc13, hQ13, l13, y13, z13⟩, st13⟩ := X9.virtualBack hx (y := (⟨"com/example/runqueue/runqueue/Job", "maxAttempts", "()I"⟩ : MethodName)) (z := (⟨"com/example/runqueue/runqueue/Job", "maxAttempts", "()I"⟩ : MethodName)) hown (mvT hZ (hw _ (List.mem_of_getElem? (i := 84) rfl))) (mvT hZ (hw _ (List.mem_of_getElem? (i := 85) rfl))) (notFace_of_selects (args := #[]) (mvT hZ (hw _ (List.mem_of_getElem? (i := 87) rfl)))) (mvT hZ (hw _ (List.mem_of_getElem? (i := 87) rfl))) (mvT hZ (hw _ (List.mem_of_getElem? (i := 86) rfl))) (by decide) (backOf (W := 0) (rm10 l Z a0 hw [] a7 p11 h0 n0 O0 F_12) hZ (hw _ (List.mem_of_getElem? (i := 88) rfl)) (hw _ (List.mem_of_getElem? (i := 6) rfl)) (by decide) (by decide)) q13a q13c (g := (mkF m 9 #[.val (.ref a1), .val (.ref a2), .val (.ref a4), .unset] [(.ref a7)])) rfl (by rw [hml]; rfl) (Steps.refl _) (argsL := []) (rest := []) (lenOf pd_12 rfl) rfl (by show 2 * 0 + _ ≤ _; exact Nat.le_of_eq rfl) (hb hby d7_9) (fun _ _ => ⟨rfl, e9, (by decide : 0 + 0 ≤ _), (by decide : 0 + 0 ≤ _)⟩)
  dsimp only [Pt.U, Pt.locs, Pt.cells, Pt.slots] at X13 l13 y13 z13 st13 hQ13
  subst l13 y13 z13
  obtain ⟨rfl, Nq13, e13⟩ := hQ13
  have N13 := Fr.app N9 Nq13
  obtain ⟨T17, X17, e17, st17⟩ := getF X13 hx hZ hown (host := "") (Or.inl (hw _ (List.mem_of_getElem? (i := 65) rfl))) Via.refl e13 F_16 (g := (mkF m 27 #[.val (.ref a1), .val (.ref a2), .val (.ref a4), .unset] [(.ref a1), (.int (1 : Int32))])) rfl rfl (hb hby d7_27)
  obtain ⟨T19, X19, e19, st19⟩ := getS2 X17 hx hZ hown (host := "") (Or.inl (hw _ (List.mem_of_getElem? (i := 89) rfl))) Via.refl e17 (S_18.ext O0.2) (g := (mkF m 33 #[.val (.ref a1), .val (.ref a2), .val (.ref a4), .val (.int ((1 : Int32) + p15))] [(.ref a4)])) rfl (hb hby d7_33)
  obtain ⟨cq22, kq22, q22a, q22b, q22c⟩ := isOf hZ e19 E_3
  obtain ⟨_, _, ⟨T22, L22, k22, n22⟩, -, X22, ⟨Lc22, hQ22, l22, y22, z22⟩, st22⟩ := X19.virtualBack hx (y := (⟨"com/example/runqueue/runqueue/Outcome", "attempts", "()I"⟩ : MethodName)) (z := (⟨"com/example/runqueue/runqueue/Outcome", "attempts", "()I"⟩ : MethodName)) hown (mvT hZ (hw _ (List.mem_of_getElem? (i := 94) rfl))) (mvT hZ (hw _ (List.mem_of_getElem? (i := 95) rfl))) (notFace_of_selects (args := #[]) (mvT hZ (hw _ (List.mem_of_getElem? (i := 97) rfl)))) (mvT hZ (hw _ (List.mem_of_getElem? (i := 97) rfl))) (mvT hZ (hw _ (List.mem_of_getElem? (i := 96) rfl))) (by decide) (backOf (W := 0) (rm11 l Z a0 hw [] a2 p20 h0 n0 O0 F_21) hZ (hw _ (List.mem_of_getElem? (i := 98) rfl)) (hw _ (List.mem_of_getElem? (i := 45) rfl)) (by decide) (by decide)) q22a q22c (g := (mkF m 47 #[.val (.ref a1), .val (.ref a2), .val (.ref a4), .val (.int ((1 : Int32) + p15))] [(.ref a2)])) rfl (by rw [hml]; rfl) (Steps.refl _) (argsL := []) (rest := []) (lenOf pd_12 rfl) rfl (by show 2 * 0 + _ ≤ _; exact Nat.le_of_eq rfl) (hb hby d7_47) (fun _ _ => ⟨rfl, e19, (by decide : 0 + 0 ≤ _), (by decide : 0 + 0 ≤ _)⟩)
  dsimp only [Pt.U, Pt.locs, Pt.cells, Pt.slots] at X22 l22 y22 z22 st22 hQ22
  subst l22 y22 z22
  obtain ⟨rfl, Nq22, e22⟩ := hQ22
  have N22 := Fr.app N13 Nq22
  obtain ⟨fs, hr, hrun, hended, hW, hsame⟩ := X22.leave (v := some (.int (1 : Int32))) (fun h => by rw [Bd.returns] at h; cases h)
  refine ⟨_, _, pre0 _ ?_, hrun, hended, _, _, rfl, ?_, ⟨_, rfl⟩, hW, hsame.mono (by decide) (by decide)⟩
  · show Steps p.tables e below (s₁.setTop (mkF m 0 #[.val (.ref a1), .val (.ref a2), .unset, .unset] [])) _
    refine XS.aloadN X0.here hx rfl (hb hby d7_0) rfl rfl ?_
    show Steps p.tables e below (s₁.setTop (mkF m 1 #[.val (.ref a1), .val (.ref a2), .unset, .unset] [(.ref a2)])) _
    refine st6.trans ?_
    show Steps p.tables e below (T6.setTop (mkF m 4 #[.val (.ref a1), .val (.ref a2), .unset, .unset] [(.ref a4)])) _
    refine XS.astoreN X6.here hx rfl (hb hby d7_4) rfl rfl (l' := #[.val (.ref a1), .val (.ref a2), .val (.ref a4), .unset]) rfl ?_
    refine XS.aloadN X6.here hx rfl (hb hby d7_5) rfl rfl ?_
    show Steps p.tables e below (T6.setTop (mkF m 6 #[.val (.ref a1), .val (.ref a2), .val (.ref a4), .unset] [(.ref a2)])) _
    refine st9.trans ?_
    show Steps p.tables e below (T9.setTop (mkF m 9 #[.val (.ref a1), .val (.ref a2), .val (.ref a4), .unset] [(.ref a7)])) _
    refine st13.trans ?_
    show Steps p.tables e below (T13.setTop (mkF m 12 #[.val (.ref a1), .val (.ref a2), .val (.ref a4), .unset] [(.int p11)])) _
    refine XS.ifYes X13.here hx rfl (pc0 := 12) (pc' := 25) rfl (hb hby d7_12) rfl ((if0 _ _).trans (flt (hc14 : ¬ ((0 : Int32) < p11))).2.2.2) (by decide) (by decide) ?_
    refine XS.iconst X13.here hx rfl (hb hby d7_25) ?_
    refine XS.aloadN X13.here hx rfl (hb hby d7_26) rfl rfl ?_
    show Steps p.tables e below (T13.setTop (mkF m 27 #[.val (.ref a1), .val (.ref a2), .val (.ref a4), .unset] [(.ref a1), (.int (1 : Int32))])) _
    refine st17 _ ?_
    show Steps p.tables e below (T17.setTop (mkF m 30 #[.val (.ref a1), .val (.ref a2), .val (.ref a4), .unset] [(.int p15), (.int (1 : Int32))])) _
    refine XS.iadd X17.here hx rfl (hb hby d7_30) rfl ?_
    refine XS.istoreN X17.here hx rfl (hb hby d7_31) rfl (l' := #[.val (.ref a1), .val (.ref a2), .val (.ref a4), .val (.int ((1 : Int32) + p15))]) rfl ?_
    refine XS.aloadN X17.here hx rfl (hb hby d7_32) rfl rfl ?_
    show Steps p.tables e below (T17.setTop (mkF m 33 #[.val (.ref a1), .val (.ref a2), .val (.ref a4), .val (.int ((1 : Int32) + p15))] [(.ref a4)])) _
    refine st19 _ ?_
    show Steps p.tables e below (T19.setTop (mkF m 36 #[.val (.ref a1), .val (.ref a2), .val (.ref a4), .val (.int ((1 : Int32) + p15))] [(.ref a4), (.ref a4)])) _
    refine Jvm.RoadKit.acmp (g := (mkF m 36 #[.val (.ref a1), .val (.ref a2), .val (.ref a4), .val (.int ((1 : Int32) + p15))] [(.ref a4), (.ref a4)])) X19 hx rfl rfl rfl (pc0 := 36) (pc' := 46) (same := true) rfl (hb hby d7_36) rfl (decide_eq_true rfl) (by decide) (by decide) ?_
    refine XS.aloadN X19.here hx rfl (hb hby d7_46) rfl rfl ?_
    show Steps p.tables e below (T19.setTop (mkF m 47 #[.val (.ref a1), .val (.ref a2), .val (.ref a4), .val (.int ((1 : Int32) + p15))] [(.ref a2)])) _
    refine st22.trans ?_
    show Steps p.tables e below (T22.setTop (mkF m 50 #[.val (.ref a1), .val (.ref a2), .val (.ref a4), .val (.int ((1 : Int32) + p15))] [(.int p20)])) _
    refine XS.iloadN X22.here hx rfl (hb hby d7_50) rfl ?_
    show Steps p.tables e below (T22.setTop (mkF m 51 #[.val (.ref a1), .val (.ref a2), .val (.ref a4), .val (.int ((1 : Int32) + p15))] [(.int ((1 : Int32) + p15)), (.int p20)])) _
    refine XS.icmpNo X22.here hx rfl (hb hby d7_51) rfl (tlt (hc23 : p20 < ((1 : Int32) + p15))).2.1 ?_
    refine XS.iconst X22.here hx rfl (hb hby d7_54) ?_
    refine XS.goto X22.here hx rfl (pc0 := 55) (pc' := 59) rfl (hb hby d7_55) (by decide) (by decide) ?_
    show Steps p.tables e below (T22.setTop (mkF m 59 #[.val (.ref a1), .val (.ref a2), .val (.ref a4), .val (.int ((1 : Int32) + p15))] [(.int (1 : Int32))])) _
    exact retN X22 hx (t := .boolean) Bd.returns (by simp) (hb hby d7_59) hr
  · show Qrm7_4 Z a1 a2 a4 a7 p11 p15 p20 h0 n0 _ T22.heap _
    rw [e22]
    exact ⟨rfl, N22, rfl⟩
def Qrm7_5 (Z : State) (a1 : Addr) (a2 : Addr) (a4 : Addr) (a7 : Addr) (p11 : Int32) (p15 : Int32) (p20 : Int32) (h0 : Heap) (n0 : Nat) (v : Option Value) (h : Heap) (L : List Loc) : Prop := v = some (.int (0 : Int32)) ∧ Fr n0 L ∧ h = h0
set_option maxRecDepth 65536 in
set_option maxHeartbeats 40000000 in
theorem rm7_5 (l : Launch) (Z : State) (a0 : Array Value) (hw : ∀ d ∈ tables_1, d.before a0 Z = true) (ws : List Jvm.Cond) (a1 : Addr) (a2 : Addr) (a4 : Addr) (a7 : Addr) (p11 : Int32) (p15 : Int32) (p20 : Int32) (h0 : Heap) (n0 : Nat) (O0 : Old Z n0 h0) (E_3 : Exa Z h0 a2 "com/example/runqueue/runqueue/Outcome") (F_5 : Fld Z h0 a2 "com/example/runqueue/runqueue/Outcome" "state" "Lcom/example/runqueue/runqueue/Outcome$State;" (.ref a4)) (F_8 : Fld Z h0 a2 "com/example/runqueue/runqueue/Outcome" "job" "Lcom/example/runqueue/runqueue/Job;" (.ref a7)) (E_10 : Exa Z h0 a7 "com/example/runqueue/runqueue/Job") (F_12 : Fld Z h0 a7 "com/example/runqueue/runqueue/Job" "maxAttempts" "I" (.int p11)) (hc14 : ¬ ((0 : Int32) < p11)) (F_16 : Fld Z h0 a1 "com/example/runqueue/runqueue/Retries" "count" "I" (.int p15)) (S_18 : Sta Z Z.heap "com/example/runqueue/runqueue/Outcome$State" "FAILED" "Lcom/example/runqueue/runqueue/Outcome$State;" (.ref a4)) (F_21 : Fld Z h0 a2 "com/example/runqueue/runqueue/Outcome" "attempts" "I" (.int p20)) (hc23 : ¬ (p20 < ((1 : Int32) + p15))) :
    MetFree l (⟨"com/example/runqueue/runqueue/Retries", "again", "(Lcom/example/runqueue/runqueue/Outcome;)Z"⟩ : MethodName) (head1 (Jvm.Cond.code (⟨"com/example/runqueue/runqueue/Retries", "again", "(Lcom/example/runqueue/runqueue/Outcome;)Z"⟩ : MethodName) prog_36_method_2_code 4 (some .boolean) :: ws) ({ frames := 1, cells := 0, slots := 0, locals := 12 } : Room)) (fun a U => a = #[(.ref a1), (.ref a2)] ∧ Z.Warmed39 U.vm ∧ U.heap = h0) (fun _ _ _ _ _ => True) (fun _ U o U' => ∃ v L, o = .returned v ∧ Qrm7_5 Z a1 a2 a4 a7 p11 p15 p20 h0 n0 v U'.heap L ∧ FrameEnd U o U' L ({ frames := 1, cells := 0, slots := 0, locals := 12 } : Room).cells ({ frames := 1, cells := 0, slots := 0, locals := 12 } : Room).slots) := by
  refine MetFree.of_bodySF (plainFor_of_name pn_8) hisR ?_
  intro p e s m args below meth c s₁ Bd hml0 hP hK
  obtain ⟨rfl, hZ, hh⟩ := hP
  have hx := Bd.exec
  have hby := Bd.bytes
  have hml : c.maxLocals = 4 := hml0
  have hown : s.vm.findClass "com/example/runqueue/runqueue/Retries" = some m.cls := findClass_of_methodNamed Bd.named
  have hnm := (name_of_methodNamed Bd.named Bd.method).1
  have X0 : Stand p l e ({ frames := 1, cells := 0, slots := 0, locals := 12 } : Room) s m #[(.ref a1), (.ref a2)] below meth c s₁ [] 0 0 := Stand.of_body Bd
  have e0 : s₁.heap = h0 := by rw [← hh, Bd.state]; rfl
  have N0 := Fr.nil n0
  have pre0 : ∀ t, Steps p.tables e below (s₁.setTop (mkF m 0 #[.val (.ref a1), .val (.ref a2), .unset, .unset] [])) t → Steps p.tables e below (s₁.setTop (entryFrame m #[(.ref a1), (.ref a2)] 4)) t := fun t k => castTop (ef_7_RR m a1 a2) k
  obtain ⟨cq6, kq6, q6a, q6b, q6c⟩ := isOf hZ e0 E_3
  obtain ⟨_, _, ⟨T6, L6, k6, n6⟩, -, X6, ⟨Lc6, hQ6, l6, y6, z6⟩, st6⟩ := X0.virtualBack hx (y := (⟨"com/example/runqueue/runqueue/Outcome", "state", "()Lcom/example/runqueue/runqueue/Outcome$State;"⟩ : MethodName)) (z := (⟨"com/example/runqueue/runqueue/Outcome", "state", "()Lcom/example/runqueue/runqueue/Outcome$State;"⟩ : MethodName)) hown (mvT hZ (hw _ (List.mem_of_getElem? (i := 74) rfl))) (mvT hZ (hw _ (List.mem_of_getElem? (i := 75) rfl))) (notFace_of_selects (args := #[]) (mvT hZ (hw _ (List.mem_of_getElem? (i := 77) rfl)))) (mvT hZ (hw _ (List.mem_of_getElem? (i := 77) rfl))) (mvT hZ (hw _ (List.mem_of_getElem? (i := 76) rfl))) (by decide) (backOf (W := 0) (rm8 l Z a0 hw [] a2 a4 h0 n0 O0 F_5) hZ (hw _ (List.mem_of_getElem? (i := 78) rfl)) (hw _ (List.mem_of_getElem? (i := 45) rfl)) (by decide) (by decide)) q6a q6c (g := (mkF m 1 #[.val (.ref a1), .val (.ref a2), .unset, .unset] [(.ref a2)])) rfl (by rw [hml]; rfl) (Steps.refl _) (argsL := []) (rest := []) (lenOf pd_10 rfl) rfl (by show 2 * 0 + _ ≤ _; exact Nat.le_of_eq rfl) (hb hby d7_1) (fun _ _ => ⟨rfl, e0, (by decide : 0 + 0 ≤ _), (by decide : 0 + 0 ≤ _)⟩)
  dsimp only [Pt.U, Pt.locs, Pt.cells, Pt.slots] at X6 l6 y6 z6 st6 hQ6
  subst l6 y6 z6
  obtain ⟨rfl, Nq6, e6⟩ := hQ6
  have N6 := Fr.app N0 Nq6
  obtain ⟨cq9, kq9, q9a, q9b, q9c⟩ := isOf hZ e6 E_3
  obtain ⟨_, _, ⟨T9, L9, k9, n9⟩, -, X9, ⟨Lc9, hQ9, l9, y9, z9⟩, st9⟩ := X6.virtualBack hx (y := (⟨"com/example/runqueue/runqueue/Outcome", "job", "()Lcom/example/runqueue/runqueue/Job;"⟩ : MethodName)) (z := (⟨"com/example/runqueue/runqueue/Outcome", "job", "()Lcom/example/runqueue/runqueue/Job;"⟩ : MethodName)) hown (mvT hZ (hw _ (List.mem_of_getElem? (i := 79) rfl))) (mvT hZ (hw _ (List.mem_of_getElem? (i := 80) rfl))) (notFace_of_selects (args := #[]) (mvT hZ (hw _ (List.mem_of_getElem? (i := 82) rfl)))) (mvT hZ (hw _ (List.mem_of_getElem? (i := 82) rfl))) (mvT hZ (hw _ (List.mem_of_getElem? (i := 81) rfl))) (by decide) (backOf (W := 0) (rm9 l Z a0 hw [] a2 a7 h0 n0 O0 F_8) hZ (hw _ (List.mem_of_getElem? (i := 83) rfl)) (hw _ (List.mem_of_getElem? (i := 45) rfl)) (by decide) (by decide)) q9a q9c (g := (mkF m 6 #[.val (.ref a1), .val (.ref a2), .val (.ref a4), .unset] [(.ref a2)])) rfl (by rw [hml]; rfl) (Steps.refl _) (argsL := []) (rest := []) (lenOf pd_11 rfl) rfl (by show 2 * 0 + _ ≤ _; exact Nat.le_of_eq rfl) (hb hby d7_6) (fun _ _ => ⟨rfl, e6, (by decide : 0 + 0 ≤ _), (by decide : 0 + 0 ≤ _)⟩)
  dsimp only [Pt.U, Pt.locs, Pt.cells, Pt.slots] at X9 l9 y9 z9 st9 hQ9
  subst l9 y9 z9
  obtain ⟨rfl, Nq9, e9⟩ := hQ9
  have N9 := Fr.app N6 Nq9
  obtain ⟨cq13, kq13, q13a, q13b, q13c⟩ := isOf hZ e9 E_10
  obtain ⟨_, _, ⟨T13, L13, k13, n13⟩, -, X13, ⟨Lc13, hQ13, l13, y13, z13⟩, st13⟩ := X9.virtualBack hx (y := (⟨"com/example/runqueue/runqueue/Job", "maxAttempts", "()I"⟩ : MethodName)) (z := (⟨"com/example/runqueue/runqueue/Job", "maxAttempts", "()I"⟩ : MethodName)) hown (mvT hZ (hw _ (List.mem_of_getElem? (i := 84) rfl))) (mvT hZ (hw _ (List.mem_of_getElem? (i := 85) rfl))) (notFace_of_selects (args := #[]) (mvT hZ (hw _ (List.mem_of_getElem? (i := 87) rfl)))) (mvT hZ (hw _ (List.mem_of_getElem? (i := 87) rfl))) (mvT hZ (hw _ (List.mem_of_getElem? (i := 86) rfl))) (by decide) (backOf (W := 0) (rm10 l Z a0 hw [] a7 p11 h0 n0 O0 F_12) hZ (hw _ (List.mem_of_getElem? (i := 88) rfl)) (hw _ (List.mem_of_getElem? (i := 6) rfl)) (by decide) (by decide)) q13a q13c (g := (mkF m 9 #[.val (.ref a1), .val (.ref a2), .val (.ref a4), .unset] [(.ref a7)])) rfl (by rw [hml]; rfl) (Steps.refl _) (argsL := []) (rest := []) (lenOf pd_12 rfl) rfl (by show 2 * 0 + _ ≤ _; exact Nat.le_of_eq rfl) (hb hby d7_9) (fun _ _ => ⟨rfl, e9, (by decide : 0 + 0 ≤ _), (by decide : 0 + 0 ≤ _)⟩)
  dsimp only [Pt.U, Pt.locs, Pt.cells, Pt.slots] at X13 l13 y13 z13 st13 hQ13
  subst l13 y13 z13
  obtain ⟨rfl, Nq13, e13⟩ := hQ13
  have N13 := Fr.app N9 Nq13
  obtain ⟨T17, X17, e17, st17⟩ := getF X13 hx hZ hown (host := "") (Or.inl (hw _ (List.mem_of_getElem? (i := 65) rfl))) Via.refl e13 F_16 (g := (mkF m 27 #[.val (.ref a1), .val (.ref a2), .val (.ref a4), .unset] [(.ref a1), (.int (1 : Int32))])) rfl rfl (hb hby d7_27)
  obtain ⟨T19, X19, e19, st19⟩ := getS2 X17 hx hZ hown (host := "") (Or.inl (hw _ (List.mem_of_getElem? (i := 89) rfl))) Via.refl e17 (S_18.ext O0.2) (g := (mkF m 33 #[.val (.ref a1), .val (.ref a2), .val (.ref a4), .val (.int ((1 : Int32) + p15))] [(.ref a4)])) rfl (hb hby d7_33)
  obtain ⟨cq22, kq22, q22a, q22b, q22c⟩ := isOf hZ e19 E_3
  obtain ⟨_, _, ⟨T22, L22, k22, n22⟩, -, X22, ⟨Lc22, hQ22, l22, y22, z22⟩, st22⟩ := X19.virtualBack hx (y := (⟨"com/example/runqueue/runqueue/Outcome", "attempts", "()I"⟩ : MethodName)) (z := (⟨"com/example/runqueue/runqueue/Outcome", "attempts", "()I"⟩ : MethodName)) hown (mvT hZ (hw _ (List.mem_of_getElem? (i := 94) rfl))) (mvT hZ (hw _ (List.mem_of_getElem? (i := 95) rfl))) (notFace_of_selects (args := #[]) (mvT hZ (hw _ (List.mem_of_getElem? (i := 97) rfl)))) (mvT hZ (hw _ (List.mem_of_getElem? (i := 97) rfl))) (mvT hZ (hw _ (List.mem_of_getElem? (i := 96) rfl))) (by decide) (backOf (W := 0) (rm11 l Z a0 hw [] a2 p20 h0 n0 O0 F_21) hZ (hw _ (List.mem_of_getElem? (i := 98) rfl)) (hw _ (List.mem_of_getElem? (i := 45) rfl)) (by decide) (by decide)) q22a q22c (g := (mkF m 47 #[.val (.ref a1), .val (.ref a2), .val (.ref a4), .val (.int ((1 : Int32) + p15))] [(.ref a2)])) rfl (by rw [hml]; rfl) (Steps.refl _) (argsL := []) (rest := []) (lenOf pd_12 rfl) rfl (by show 2 * 0 + _ ≤ _; exact Nat.le_of_eq rfl) (hb hby d7_47) (fun _ _ => ⟨rfl, e19, (by decide : 0 + 0 ≤ _), (by decide : 0 + 0 ≤ _)⟩)
  dsimp only [Pt.U, Pt.locs, Pt.cells, Pt.slots] at X22 l22 y22 z22 st22 hQ22
  subst l22 y22 z22
  obtain ⟨rfl, Nq22, e22⟩ := hQ22
  have N22 := Fr.app N13 Nq22
  obtain ⟨fs, hr, hrun, hended, hW, hsame⟩ := X22.leave (v := some (.int (0 : Int32))) (fun h => by rw [Bd.returns] at h; cases h)
  refine ⟨_, _, pre0 _ ?_, hrun, hended, _, _, rfl, ?_, ⟨_, rfl⟩, hW, hsame.mono (by decide) (by decide)⟩
  · show Steps p.tables e below (s₁.setTop (mkF m 0 #[.val (.ref a1), .val (.ref a2), .unset, .unset] [])) _
    refine XS.aloadN X0.here hx rfl (hb hby d7_0) rfl rfl ?_
    show Steps p.tables e below (s₁.setTop (mkF m 1 #[.val (.ref a1), .val (.ref a2), .unset, .unset] [(.ref a2)])) _
    refine st6.trans ?_
    show Steps p.tables e below (T6.setTop (mkF m 4 #[.val (.ref a1), .val (.ref a2), .unset, .unset] [(.ref a4)])) _
    refine XS.astoreN X6.here hx rfl (hb hby d7_4) rfl rfl (l' := #[.val (.ref a1), .val (.ref a2), .val (.ref a4), .unset]) rfl ?_
    refine XS.aloadN X6.here hx rfl (hb hby d7_5) rfl rfl ?_
    show Steps p.tables e below (T6.setTop (mkF m 6 #[.val (.ref a1), .val (.ref a2), .val (.ref a4), .unset] [(.ref a2)])) _
    refine st9.trans ?_
    show Steps p.tables e below (T9.setTop (mkF m 9 #[.val (.ref a1), .val (.ref a2), .val (.ref a4), .unset] [(.ref a7)])) _
    refine st13.trans ?_
    show Steps p.tables e below (T13.setTop (mkF m 12 #[.val (.ref a1), .val (.ref a2), .val (.ref a4), .unset] [(.int p11)])) _
    refine XS.ifYes X13.here hx rfl (pc0 := 12) (pc' := 25) rfl (hb hby d7_12) rfl ((if0 _ _).trans (flt (hc14 : ¬ ((0 : Int32) < p11))).2.2.2) (by decide) (by decide) ?_
    refine XS.iconst X13.here hx rfl (hb hby d7_25) ?_
    refine XS.aloadN X13.here hx rfl (hb hby d7_26) rfl rfl ?_
    show Steps p.tables e below (T13.setTop (mkF m 27 #[.val (.ref a1), .val (.ref a2), .val (.ref a4), .unset] [(.ref a1), (.int (1 : Int32))])) _
    refine st17 _ ?_
    show Steps p.tables e below (T17.setTop (mkF m 30 #[.val (.ref a1), .val (.ref a2), .val (.ref a4), .unset] [(.int p15), (.int (1 : Int32))])) _
    refine XS.iadd X17.here hx rfl (hb hby d7_30) rfl ?_
    refine XS.istoreN X17.here hx rfl (hb hby d7_31) rfl (l' := #[.val (.ref a1), .val (.ref a2), .val (.ref a4), .val (.int ((1 : Int32) + p15))]) rfl ?_
    refine XS.aloadN X17.here hx rfl (hb hby d7_32) rfl rfl ?_
    show Steps p.tables e below (T17.setTop (mkF m 33 #[.val (.ref a1), .val (.ref a2), .val (.ref a4), .val (.int ((1 : Int32) + p15))] [(.ref a4)])) _
    refine st19 _ ?_
    show Steps p.tables e below (T19.setTop (mkF m 36 #[.val (.ref a1), .val (.ref a2), .val (.ref a4), .val (.int ((1 : Int32) + p15))] [(.ref a4), (.ref a4)])) _
    refine Jvm.RoadKit.acmp (g := (mkF m 36 #[.val (.ref a1), .val (.ref a2), .val (.ref a4), .val (.int ((1 : Int32) + p15))] [(.ref a4), (.ref a4)])) X19 hx rfl rfl rfl (pc0 := 36) (pc' := 46) (same := true) rfl (hb hby d7_36) rfl (decide_eq_true rfl) (by decide) (by decide) ?_
    refine XS.aloadN X19.here hx rfl (hb hby d7_46) rfl rfl ?_
    show Steps p.tables e below (T19.setTop (mkF m 47 #[.val (.ref a1), .val (.ref a2), .val (.ref a4), .val (.int ((1 : Int32) + p15))] [(.ref a2)])) _
    refine st22.trans ?_
    show Steps p.tables e below (T22.setTop (mkF m 50 #[.val (.ref a1), .val (.ref a2), .val (.ref a4), .val (.int ((1 : Int32) + p15))] [(.int p20)])) _
    refine XS.iloadN X22.here hx rfl (hb hby d7_50) rfl ?_
    show Steps p.tables e below (T22.setTop (mkF m 51 #[.val (.ref a1), .val (.ref a2), .val (.ref a4), .val (.int ((1 : Int32) + p15))] [(.int ((1 : Int32) + p15)), (.int p20)])) _
    refine XS.icmpYes X22.here hx rfl (pc0 := 51) (pc' := 58) rfl (hb hby d7_51) rfl (flt (hc23 : ¬ (p20 < ((1 : Int32) + p15)))).2.1 (by decide) (by decide) ?_
    refine XS.iconst X22.here hx rfl (hb hby d7_58) ?_
    show Steps p.tables e below (T22.setTop (mkF m 59 #[.val (.ref a1), .val (.ref a2), .val (.ref a4), .val (.int ((1 : Int32) + p15))] [(.int (0 : Int32))])) _
    exact retN X22 hx (t := .boolean) Bd.returns (by simp) (hb hby d7_59) hr
  · show Qrm7_5 Z a1 a2 a4 a7 p11 p15 p20 h0 n0 _ T22.heap _
    rw [e22]
    exact ⟨rfl, N22, rfl⟩
def Qrm7_6 (Z : State) (a1 : Addr) (a2 : Addr) (a4 : Addr) (a7 : Addr) (p11 : Int32) (a17 : Addr) (p22 : Int32) (h0 : Heap) (n0 : Nat) (v : Option Value) (h : Heap) (L : List Loc) : Prop := v = some (.int (1 : Int32)) ∧ Fr n0 L ∧ h = h0
set_option maxRecDepth 65536 in
set_option maxHeartbeats 40000000 in
theorem rm7_6 (l : Launch) (Z : State) (a0 : Array Value) (hw : ∀ d ∈ tables_1, d.before a0 Z = true) (ws : List Jvm.Cond) (a1 : Addr) (a2 : Addr) (a4 : Addr) (a7 : Addr) (p11 : Int32) (a17 : Addr) (p22 : Int32) (h0 : Heap) (n0 : Nat) (O0 : Old Z n0 h0) (E_3 : Exa Z h0 a2 "com/example/runqueue/runqueue/Outcome") (F_5 : Fld Z h0 a2 "com/example/runqueue/runqueue/Outcome" "state" "Lcom/example/runqueue/runqueue/Outcome$State;" (.ref a4)) (F_8 : Fld Z h0 a2 "com/example/runqueue/runqueue/Outcome" "job" "Lcom/example/runqueue/runqueue/Job;" (.ref a7)) (E_10 : Exa Z h0 a7 "com/example/runqueue/runqueue/Job") (F_12 : Fld Z h0 a7 "com/example/runqueue/runqueue/Job" "maxAttempts" "I" (.int p11)) (hc14 : (0 : Int32) < p11) (S_18 : Sta Z Z.heap "com/example/runqueue/runqueue/Outcome$State" "FAILED" "Lcom/example/runqueue/runqueue/Outcome$State;" (.ref a17)) (ne_a4_a17 : a4 ≠ a17) (S_20 : Sta Z Z.heap "com/example/runqueue/runqueue/Outcome$State" "TIMEOUT" "Lcom/example/runqueue/runqueue/Outcome$State;" (.ref a4)) (F_23 : Fld Z h0 a2 "com/example/runqueue/runqueue/Outcome" "attempts" "I" (.int p22)) (hc25 : p22 < p11) :
    MetFree l (⟨"com/example/runqueue/runqueue/Retries", "again", "(Lcom/example/runqueue/runqueue/Outcome;)Z"⟩ : MethodName) (head1 (Jvm.Cond.code (⟨"com/example/runqueue/runqueue/Retries", "again", "(Lcom/example/runqueue/runqueue/Outcome;)Z"⟩ : MethodName) prog_36_method_2_code 4 (some .boolean) :: ws) ({ frames := 1, cells := 0, slots := 0, locals := 12 } : Room)) (fun a U => a = #[(.ref a1), (.ref a2)] ∧ Z.Warmed39 U.vm ∧ U.heap = h0) (fun _ _ _ _ _ => True) (fun _ U o U' => ∃ v L, o = .returned v ∧ Qrm7_6 Z a1 a2 a4 a7 p11 a17 p22 h0 n0 v U'.heap L ∧ FrameEnd U o U' L ({ frames := 1, cells := 0, slots := 0, locals := 12 } : Room).cells ({ frames := 1, cells := 0, slots := 0, locals := 12 } : Room).slots) := by
  refine MetFree.of_bodySF (plainFor_of_name pn_8) hisR ?_
  intro p e s m args below meth c s₁ Bd hml0 hP hK
  obtain ⟨rfl, hZ, hh⟩ := hP
  have hx := Bd.exec
  have hby := Bd.bytes
  have hml : c.maxLocals = 4 := hml0
  have hown : s.vm.findClass "com/example/runqueue/runqueue/Retries" = some m.cls := findClass_of_methodNamed Bd.named
  have hnm := (name_of_methodNamed Bd.named Bd.method).1
  have X0 : Stand p l e ({ frames := 1, cells := 0, slots := 0, locals := 12 } : Room) s m #[(.ref a1), (.ref a2)] below meth c s₁ [] 0 0 := Stand.of_body Bd
  have e0 : s₁.heap = h0 := by rw [← hh, Bd.state]; rfl
  have N0 := Fr.nil n0
  have pre0 : ∀ t, Steps p.tables e below (s₁.setTop (mkF m 0 #[.val (.ref a1), .val (.ref a2), .unset, .unset] [])) t → Steps p.tables e below (s₁.setTop (entryFrame m #[(.ref a1), (.ref a2)] 4)) t := fun t k => castTop (ef_7_RR m a1 a2) k
  obtain ⟨cq6, kq6, q6a, q6b, q6c⟩ := isOf hZ e0 E_3
  obtain ⟨_, _, ⟨T6, L6, k6, n6⟩, -, X6, ⟨Lc6, hQ6, l6, y6, z6⟩, st6⟩ := X0.virtualBack hx (y := (⟨"com/example/runqueue/runqueue/Outcome", "state", "()Lcom/example/runqueue/runqueue/Outcome$State;"⟩ : MethodName)) (z := (⟨"com/example/runqueue/runqueue/Outcome", "state", "()Lcom/example/runqueue/runqueue/Outcome$State;"⟩ : MethodName)) hown (mvT hZ (hw _ (List.mem_of_getElem? (i := 74) rfl))) (mvT hZ (hw _ (List.mem_of_getElem? (i := 75) rfl))) (notFace_of_selects (args := #[]) (mvT hZ (hw _ (List.mem_of_getElem? (i := 77) rfl)))) (mvT hZ (hw _ (List.mem_of_getElem? (i := 77) rfl))) (mvT hZ (hw _ (List.mem_of_getElem? (i := 76) rfl))) (by decide) (backOf (W := 0) (rm8 l Z a0 hw [] a2 a4 h0 n0 O0 F_5) hZ (hw _ (List.mem_of_getElem? (i := 78) rfl)) (hw _ (List.mem_of_getElem? (i := 45) rfl)) (by decide) (by decide)) q6a q6c (g := (mkF m 1 #[.val (.ref a1), .val (.ref a2), .unset, .unset] [(.ref a2)])) rfl (by rw [hml]; rfl) (Steps.refl _) (argsL := []) (rest := []) (lenOf pd_10 rfl) rfl (by show 2 * 0 + _ ≤ _; exact Nat.le_of_eq rfl) (hb hby d7_1) (fun _ _ => ⟨rfl, e0, (by decide : 0 + 0 ≤ _), (by decide : 0 + 0 ≤ _)⟩)
  dsimp only [Pt.U, Pt.locs, Pt.cells, Pt.slots] at X6 l6 y6 z6 st6 hQ6
  subst l6 y6 z6
  obtain ⟨rfl, Nq6, e6⟩ := hQ6
  have N6 := Fr.app N0 Nq6
  obtain ⟨cq9, kq9, q9a, q9b, q9c⟩ := isOf hZ e6 E_3
  obtain ⟨_, _, ⟨T9, L9, k9, n9⟩, -, X9, ⟨Lc9, hQ9, l9, y9, z9⟩, st9⟩ := X6.virtualBack hx (y := (⟨"com/example/runqueue/runqueue/Outcome", "job", "()Lcom/example/runqueue/runqueue/Job;"⟩ : MethodName)) (z := (⟨"com/example/runqueue/runqueue/Outcome", "job", "()Lcom/example/runqueue/runqueue/Job;"⟩ : MethodName)) hown (mvT hZ (hw _ (List.mem_of_getElem? (i := 79) rfl))) (mvT hZ (hw _ (List.mem_of_getElem? (i := 80) rfl))) (notFace_of_selects (args := #[]) (mvT hZ (hw _ (List.mem_of_getElem? (i := 82) rfl)))) (mvT hZ (hw _ (List.mem_of_getElem? (i := 82) rfl))) (mvT hZ (hw _ (List.mem_of_getElem? (i := 81) rfl))) (by decide) (backOf (W := 0) (rm9 l Z a0 hw [] a2 a7 h0 n0 O0 F_8) hZ (hw _ (List.mem_of_getElem? (i := 83) rfl)) (hw _ (List.mem_of_getElem? (i := 45) rfl)) (by decide) (by decide)) q9a q9c (g := (mkF m 6 #[.val (.ref a1), .val (.ref a2), .val (.ref a4), .unset] [(.ref a2)])) rfl (by rw [hml]; rfl) (Steps.refl _) (argsL := []) (rest := []) (lenOf pd_11 rfl) rfl (by show 2 * 0 + _ ≤ _; exact Nat.le_of_eq rfl) (hb hby d7_6) (fun _ _ => ⟨rfl, e6, (by decide : 0 + 0 ≤ _), (by decide : 0 + 0 ≤ _)⟩)
  dsimp only [Pt.U, Pt.locs, Pt.cells, Pt.slots] at X9 l9 y9 z9 st9 hQ9
  subst l9 y9 z9
  obtain ⟨rfl, Nq9, e9⟩ := hQ9
  have N9 := Fr.app N6 Nq9
  obtain ⟨cq13, kq13, q13a, q13b, q13c⟩ := isOf hZ e9 E_10
  obtain ⟨_, _, ⟨T13, L13, k13, n13⟩, -, X13, ⟨Lc13, hQ13, l13, y13, z13⟩, st13⟩ := X9.virtualBack hx (y := (⟨"com/example/runqueue/runqueue/Job", "maxAttempts", "()I"⟩ : MethodName)) (z := (⟨"com/example/runqueue/runqueue/Job", "maxAttempts", "()I"⟩ : MethodName)) hown (mvT hZ (hw _ (List.mem_of_getElem? (i := 84) rfl))) (mvT hZ (hw _ (List.mem_of_getElem? (i := 85) rfl))) (notFace_of_selects (args := #[]) (mvT hZ (hw _ (List.mem_of_getElem? (i := 87) rfl)))) (mvT hZ (hw _ (List.mem_of_getElem? (i := 87) rfl))) (mvT hZ (hw _ (List.mem_of_getElem? (i := 86) rfl))) (by decide) (backOf (W := 0) (rm10 l Z a0 hw [] a7 p11 h0 n0 O0 F_12) hZ (hw _ (List.mem_of_getElem? (i := 88) rfl)) (hw _ (List.mem_of_getElem? (i := 6) rfl)) (by decide) (by decide)) q13a q13c (g := (mkF m 9 #[.val (.ref a1), .val (.ref a2), .val (.ref a4), .unset] [(.ref a7)])) rfl (by rw [hml]; rfl) (Steps.refl _) (argsL := []) (rest := []) (lenOf pd_12 rfl) rfl (by show 2 * 0 + _ ≤ _; exact Nat.le_of_eq rfl) (hb hby d7_9) (fun _ _ => ⟨rfl, e9, (by decide : 0 + 0 ≤ _), (by decide : 0 + 0 ≤ _)⟩)
  dsimp only [Pt.U, Pt.locs, Pt.cells, Pt.slots] at X13 l13 y13 z13 st13 hQ13
  subst l13 y13 z13
  obtain ⟨rfl, Nq13, e13⟩ := hQ13
  have N13 := Fr.app N9 Nq13
  obtain ⟨cq15, kq15, q15a, q15b, q15c⟩ := isOf hZ e13 E_3
  obtain ⟨_, _, ⟨T15, L15, k15, n15⟩, -, X15, ⟨Lc15, hQ15, l15, y15, z15⟩, st15⟩ := X13.virtualBack hx (y := (⟨"com/example/runqueue/runqueue/Outcome", "job", "()Lcom/example/runqueue/runqueue/Job;"⟩ : MethodName)) (z := (⟨"com/example/runqueue/runqueue/Outcome", "job", "()Lcom/example/runqueue/runqueue/Job;"⟩ : MethodName)) hown (mvT hZ (hw _ (List.mem_of_getElem? (i := 79) rfl))) (mvT hZ (hw _ (List.mem_of_getElem? (i := 80) rfl))) (notFace_of_selects (args := #[]) (mvT hZ (hw _ (List.mem_of_getElem? (i := 82) rfl)))) (mvT hZ (hw _ (List.mem_of_getElem? (i := 82) rfl))) (mvT hZ (hw _ (List.mem_of_getElem? (i := 81) rfl))) (by decide) (backOf (W := 0) (rm9 l Z a0 hw [] a2 a7 h0 n0 O0 F_8) hZ (hw _ (List.mem_of_getElem? (i := 83) rfl)) (hw _ (List.mem_of_getElem? (i := 45) rfl)) (by decide) (by decide)) q15a q15c (g := (mkF m 16 #[.val (.ref a1), .val (.ref a2), .val (.ref a4), .unset] [(.ref a2)])) rfl (by rw [hml]; rfl) (Steps.refl _) (argsL := []) (rest := []) (lenOf pd_11 rfl) rfl (by show 2 * 0 + _ ≤ _; exact Nat.le_of_eq rfl) (hb hby d7_16) (fun _ _ => ⟨rfl, e13, (by decide : 0 + 0 ≤ _), (by decide : 0 + 0 ≤ _)⟩)
  dsimp only [Pt.U, Pt.locs, Pt.cells, Pt.slots] at X15 l15 y15 z15 st15 hQ15
  subst l15 y15 z15
  obtain ⟨rfl, Nq15, e15⟩ := hQ15
  have N15 := Fr.app N13 Nq15
  obtain ⟨cq16, kq16, q16a, q16b, q16c⟩ := isOf hZ e15 E_10
  obtain ⟨_, _, ⟨T16, L16, k16, n16⟩, -, X16, ⟨Lc16, hQ16, l16, y16, z16⟩, st16⟩ := X15.virtualBack hx (y := (⟨"com/example/runqueue/runqueue/Job", "maxAttempts", "()I"⟩ : MethodName)) (z := (⟨"com/example/runqueue/runqueue/Job", "maxAttempts", "()I"⟩ : MethodName)) hown (mvT hZ (hw _ (List.mem_of_getElem? (i := 84) rfl))) (mvT hZ (hw _ (List.mem_of_getElem? (i := 85) rfl))) (notFace_of_selects (args := #[]) (mvT hZ (hw _ (List.mem_of_getElem? (i := 87) rfl)))) (mvT hZ (hw _ (List.mem_of_getElem? (i := 87) rfl))) (mvT hZ (hw _ (List.mem_of_getElem? (i := 86) rfl))) (by decide) (backOf (W := 0) (rm10 l Z a0 hw [] a7 p11 h0 n0 O0 F_12) hZ (hw _ (List.mem_of_getElem? (i := 88) rfl)) (hw _ (List.mem_of_getElem? (i := 6) rfl)) (by decide) (by decide)) q16a q16c (g := (mkF m 19 #[.val (.ref a1), .val (.ref a2), .val (.ref a4), .unset] [(.ref a7)])) rfl (by rw [hml]; rfl) (Steps.refl _) (argsL := []) (rest := []) (lenOf pd_12 rfl) rfl (by show 2 * 0 + _ ≤ _; exact Nat.le_of_eq rfl) (hb hby d7_19) (fun _ _ => ⟨rfl, e15, (by decide : 0 + 0 ≤ _), (by decide : 0 + 0 ≤ _)⟩)
  dsimp only [Pt.U, Pt.locs, Pt.cells, Pt.slots] at X16 l16 y16 z16 st16 hQ16
  subst l16 y16 z16
  obtain ⟨rfl, Nq16, e16⟩ := hQ16
  have N16 := Fr.app N15 Nq16
  obtain ⟨T19, X19, e19, st19⟩ := getS2 X16 hx hZ hown (host := "") (Or.inl (hw _ (List.mem_of_getElem? (i := 89) rfl))) Via.refl e16 (S_18.ext O0.2) (g := (mkF m 33 #[.val (.ref a1), .val (.ref a2), .val (.ref a4), .val (.int p11)] [(.ref a4)])) rfl (hb hby d7_33)
  obtain ⟨T21, X21, e21, st21⟩ := getS2 X19 hx hZ hown (host := "") (Or.inl (hw _ (List.mem_of_getElem? (i := 91) rfl))) Via.refl e19 (S_20.ext O0.2) (g := (mkF m 40 #[.val (.ref a1), .val (.ref a2), .val (.ref a4), .val (.int p11)] [(.ref a4)])) rfl (hb hby d7_40)
  obtain ⟨cq24, kq24, q24a, q24b, q24c⟩ := isOf hZ e21 E_3
  obtain ⟨_, _, ⟨T24, L24, k24, n24⟩, -, X24, ⟨Lc24, hQ24, l24, y24, z24⟩, st24⟩ := X21.virtualBack hx (y := (⟨"com/example/runqueue/runqueue/Outcome", "attempts", "()I"⟩ : MethodName)) (z := (⟨"com/example/runqueue/runqueue/Outcome", "attempts", "()I"⟩ : MethodName)) hown (mvT hZ (hw _ (List.mem_of_getElem? (i := 94) rfl))) (mvT hZ (hw _ (List.mem_of_getElem? (i := 95) rfl))) (notFace_of_selects (args := #[]) (mvT hZ (hw _ (List.mem_of_getElem? (i := 97) rfl)))) (mvT hZ (hw _ (List.mem_of_getElem? (i := 97) rfl))) (mvT hZ (hw _ (List.mem_of_getElem? (i := 96) rfl))) (by decide) (backOf (W := 0) (rm11 l Z a0 hw [] a2 p22 h0 n0 O0 F_23) hZ (hw _ (List.mem_of_getElem? (i := 98) rfl)) (hw _ (List.mem_of_getElem? (i := 45) rfl)) (by decide) (by decide)) q24a q24c (g := (mkF m 47 #[.val (.ref a1), .val (.ref a2), .val (.ref a4), .val (.int p11)] [(.ref a2)])) rfl (by rw [hml]; rfl) (Steps.refl _) (argsL := []) (rest := []) (lenOf pd_12 rfl) rfl (by show 2 * 0 + _ ≤ _; exact Nat.le_of_eq rfl) (hb hby d7_47) (fun _ _ => ⟨rfl, e21, (by decide : 0 + 0 ≤ _), (by decide : 0 + 0 ≤ _)⟩)
  dsimp only [Pt.U, Pt.locs, Pt.cells, Pt.slots] at X24 l24 y24 z24 st24 hQ24
  subst l24 y24 z24
  obtain ⟨rfl, Nq24, e24⟩ := hQ24
  have N24 := Fr.app N16 Nq24
  obtain ⟨fs, hr, hrun, hended, hW, hsame⟩ := X24.leave (v := some (.int (1 : Int32))) (fun h => by rw [Bd.returns] at h; cases h)
  refine ⟨_, _, pre0 _ ?_, hrun, hended, _, _, rfl, ?_, ⟨_, rfl⟩, hW, hsame.mono (by decide) (by decide)⟩
  · show Steps p.tables e below (s₁.setTop (mkF m 0 #[.val (.ref a1), .val (.ref a2), .unset, .unset] [])) _
    refine XS.aloadN X0.here hx rfl (hb hby d7_0) rfl rfl ?_
    show Steps p.tables e below (s₁.setTop (mkF m 1 #[.val (.ref a1), .val (.ref a2), .unset, .unset] [(.ref a2)])) _
    refine st6.trans ?_
    show Steps p.tables e below (T6.setTop (mkF m 4 #[.val (.ref a1), .val (.ref a2), .unset, .unset] [(.ref a4)])) _
    refine XS.astoreN X6.here hx rfl (hb hby d7_4) rfl rfl (l' := #[.val (.ref a1), .val (.ref a2), .val (.ref a4), .unset]) rfl ?_
    refine XS.aloadN X6.here hx rfl (hb hby d7_5) rfl rfl ?_
    show Steps p.tables e below (T6.setTop (mkF m 6 #[.val (.ref a1), .val (.ref a2), .val (.ref a4), .unset] [(.ref a2)])) _
    refine st9.trans ?_
    show Steps p.tables e below (T9.setTop (mkF m 9 #[.val (.ref a1), .val (.ref a2), .val (.ref a4), .unset] [(.ref a7)])) _
    refine st13.trans ?_
    show Steps p.tables e below (T13.setTop (mkF m 12 #[.val (.ref a1), .val (.ref a2), .val (.ref a4), .unset] [(.int p11)])) _
    refine XS.ifNo X13.here hx rfl (hb hby d7_12) rfl ((if0 _ _).trans (tlt (hc14 : (0 : Int32) < p11)).2.2.2) ?_
    refine XS.aloadN X13.here hx rfl (hb hby d7_15) rfl rfl ?_
    show Steps p.tables e below (T13.setTop (mkF m 16 #[.val (.ref a1), .val (.ref a2), .val (.ref a4), .unset] [(.ref a2)])) _
    refine st15.trans ?_
    show Steps p.tables e below (T15.setTop (mkF m 19 #[.val (.ref a1), .val (.ref a2), .val (.ref a4), .unset] [(.ref a7)])) _
    refine st16.trans ?_
    show Steps p.tables e below (T16.setTop (mkF m 22 #[.val (.ref a1), .val (.ref a2), .val (.ref a4), .unset] [(.int p11)])) _
    refine XS.goto X16.here hx rfl (pc0 := 22) (pc' := 31) rfl (hb hby d7_22) (by decide) (by decide) ?_
    refine XS.istoreN X16.here hx rfl (hb hby d7_31) rfl (l' := #[.val (.ref a1), .val (.ref a2), .val (.ref a4), .val (.int p11)]) rfl ?_
    refine XS.aloadN X16.here hx rfl (hb hby d7_32) rfl rfl ?_
    show Steps p.tables e below (T16.setTop (mkF m 33 #[.val (.ref a1), .val (.ref a2), .val (.ref a4), .val (.int p11)] [(.ref a4)])) _
    refine st19 _ ?_
    show Steps p.tables e below (T19.setTop (mkF m 36 #[.val (.ref a1), .val (.ref a2), .val (.ref a4), .val (.int p11)] [(.ref a17), (.ref a4)])) _
    refine Jvm.RoadKit.acmp (g := (mkF m 36 #[.val (.ref a1), .val (.ref a2), .val (.ref a4), .val (.int p11)] [(.ref a17), (.ref a4)])) X19 hx rfl rfl rfl (pc0 := 36) (pc' := 39) (same := false) rfl (hb hby d7_36) rfl (decide_eq_false fun q => ne_a4_a17 (Value.ref.inj q)) (by decide) (by decide) ?_
    refine XS.aloadN X19.here hx rfl (hb hby d7_39) rfl rfl ?_
    show Steps p.tables e below (T19.setTop (mkF m 40 #[.val (.ref a1), .val (.ref a2), .val (.ref a4), .val (.int p11)] [(.ref a4)])) _
    refine st21 _ ?_
    show Steps p.tables e below (T21.setTop (mkF m 43 #[.val (.ref a1), .val (.ref a2), .val (.ref a4), .val (.int p11)] [(.ref a4), (.ref a4)])) _
    refine Jvm.RoadKit.acmp (g := (mkF m 43 #[.val (.ref a1), .val (.ref a2), .val (.ref a4), .val (.int p11)] [(.ref a4), (.ref a4)])) X21 hx rfl rfl rfl (pc0 := 43) (pc' := 46) (same := true) rfl (hb hby d7_43) rfl (decide_eq_true rfl) (by decide) (by decide) ?_
    refine XS.aloadN X21.here hx rfl (hb hby d7_46) rfl rfl ?_
    show Steps p.tables e below (T21.setTop (mkF m 47 #[.val (.ref a1), .val (.ref a2), .val (.ref a4), .val (.int p11)] [(.ref a2)])) _
    refine st24.trans ?_
    show Steps p.tables e below (T24.setTop (mkF m 50 #[.val (.ref a1), .val (.ref a2), .val (.ref a4), .val (.int p11)] [(.int p22)])) _
    refine XS.iloadN X24.here hx rfl (hb hby d7_50) rfl ?_
    show Steps p.tables e below (T24.setTop (mkF m 51 #[.val (.ref a1), .val (.ref a2), .val (.ref a4), .val (.int p11)] [(.int p11), (.int p22)])) _
    refine XS.icmpNo X24.here hx rfl (hb hby d7_51) rfl (tlt (hc25 : p22 < p11)).2.1 ?_
    refine XS.iconst X24.here hx rfl (hb hby d7_54) ?_
    refine XS.goto X24.here hx rfl (pc0 := 55) (pc' := 59) rfl (hb hby d7_55) (by decide) (by decide) ?_
    show Steps p.tables e below (T24.setTop (mkF m 59 #[.val (.ref a1), .val (.ref a2), .val (.ref a4), .val (.int p11)] [(.int (1 : Int32))])) _
    exact retN X24 hx (t := .boolean) Bd.returns (by simp) (hb hby d7_59) hr
  · show Qrm7_6 Z a1 a2 a4 a7 p11 a17 p22 h0 n0 _ T24.heap _
    rw [e24]
    exact ⟨rfl, N24, rfl⟩
def Qrm7_7 (Z : State) (a1 : Addr) (a2 : Addr) (a4 : Addr) (a7 : Addr) (p11 : Int32) (a17 : Addr) (p22 : Int32) (h0 : Heap) (n0 : Nat) (v : Option Value) (h : Heap) (L : List Loc) : Prop := v = some (.int (0 : Int32)) ∧ Fr n0 L ∧ h = h0
set_option maxRecDepth 65536 in
set_option maxHeartbeats 40000000 in
theorem rm7_7 (l : Launch) (Z : State) (a0 : Array Value) (hw : ∀ d ∈ tables_1, d.before a0 Z = true) (ws : List Jvm.Cond) (a1 : Addr) (a2 : Addr) (a4 : Addr) (a7 : Addr) (p11 : Int32) (a17 : Addr) (p22 : Int32) (h0 : Heap) (n0 : Nat) (O0 : Old Z n0 h0) (E_3 : Exa Z h0 a2 "com/example/runqueue/runqueue/Outcome") (F_5 : Fld Z h0 a2 "com/example/runqueue/runqueue/Outcome" "state" "Lcom/example/runqueue/runqueue/Outcome$State;" (.ref a4)) (F_8 : Fld Z h0 a2 "com/example/runqueue/runqueue/Outcome" "job" "Lcom/example/runqueue/runqueue/Job;" (.ref a7)) (E_10 : Exa Z h0 a7 "com/example/runqueue/runqueue/Job") (F_12 : Fld Z h0 a7 "com/example/runqueue/runqueue/Job" "maxAttempts" "I" (.int p11)) (hc14 : (0 : Int32) < p11) (S_18 : Sta Z Z.heap "com/example/runqueue/runqueue/Outcome$State" "FAILED" "Lcom/example/runqueue/runqueue/Outcome$State;" (.ref a17)) (ne_a4_a17 : a4 ≠ a17) (S_20 : Sta Z Z.heap "com/example/runqueue/runqueue/Outcome$State" "TIMEOUT" "Lcom/example/runqueue/runqueue/Outcome$State;" (.ref a4)) (F_23 : Fld Z h0 a2 "com/example/runqueue/runqueue/Outcome" "attempts" "I" (.int p22)) (hc25 : ¬ (p22 < p11)) :
    MetFree l (⟨"com/example/runqueue/runqueue/Retries", "again", "(Lcom/example/runqueue/runqueue/Outcome;)Z"⟩ : MethodName) (head1 (Jvm.Cond.code (⟨"com/example/runqueue/runqueue/Retries", "again", "(Lcom/example/runqueue/runqueue/Outcome;)Z"⟩ : MethodName) prog_36_method_2_code 4 (some .boolean) :: ws) ({ frames := 1, cells := 0, slots := 0, locals := 12 } : Room)) (fun a U => a = #[(.ref a1), (.ref a2)] ∧ Z.Warmed39 U.vm ∧ U.heap = h0) (fun _ _ _ _ _ => True) (fun _ U o U' => ∃ v L, o = .returned v ∧ Qrm7_7 Z a1 a2 a4 a7 p11 a17 p22 h0 n0 v U'.heap L ∧ FrameEnd U o U' L ({ frames := 1, cells := 0, slots := 0, locals := 12 } : Room).cells ({ frames := 1, cells := 0, slots := 0, locals := 12 } : Room).slots) := by
  refine MetFree.of_bodySF (plainFor_of_name pn_8) hisR ?_
  intro p e s m args below meth c s₁ Bd hml0 hP hK
  obtain ⟨rfl, hZ, hh⟩ := hP
  have hx := Bd.exec
  have hby := Bd.bytes
  have hml : c.maxLocals = 4 := hml0
  have hown : s.vm.findClass "com/example/runqueue/runqueue/Retries" = some m.cls := findClass_of_methodNamed Bd.named
  have hnm := (name_of_methodNamed Bd.named Bd.method).1
  have X0 : Stand p l e ({ frames := 1, cells := 0, slots := 0, locals := 12 } : Room) s m #[(.ref a1), (.ref a2)] below meth c s₁ [] 0 0 := Stand.of_body Bd
  have e0 : s₁.heap = h0 := by rw [← hh, Bd.state]; rfl
  have N0 := Fr.nil n0
  have pre0 : ∀ t, Steps p.tables e below (s₁.setTop (mkF m 0 #[.val (.ref a1), .val (.ref a2), .unset, .unset] [])) t → Steps p.tables e below (s₁.setTop (entryFrame m #[(.ref a1), (.ref a2)] 4)) t := fun t k => castTop (ef_7_RR m a1 a2) k
  obtain ⟨cq6, kq6, q6a, q6b, q6c⟩ := isOf hZ e0 E_3
  obtain ⟨_, _, ⟨T6, L6, k6, n6⟩, -, X6, ⟨Lc6, hQ6, l6, y6, z6⟩, st6⟩ := X0.virtualBack hx (y := (⟨"com/example/runqueue/runqueue/Outcome", "state", "()Lcom/example/runqueue/runqueue/Outcome$State;"⟩ : MethodName)) (z := (⟨"com/example/runqueue/runqueue/Outcome", "state", "()Lcom/example/runqueue/runqueue/Outcome$State;"⟩ : MethodName)) hown (mvT hZ (hw _ (List.mem_of_getElem? (i := 74) rfl))) (mvT hZ (hw _ (List.mem_of_getElem? (i := 75) rfl))) (notFace_of_selects (args := #[]) (mvT hZ (hw _ (List.mem_of_getElem? (i := 77) rfl)))) (mvT hZ (hw _ (List.mem_of_getElem? (i := 77) rfl))) (mvT hZ (hw _ (List.mem_of_getElem? (i := 76) rfl))) (by decide) (backOf (W := 0) (rm8 l Z a0 hw [] a2 a4 h0 n0 O0 F_5) hZ (hw _ (List.mem_of_getElem? (i := 78) rfl)) (hw _ (List.mem_of_getElem? (i := 45) rfl)) (by decide) (by decide)) q6a q6c (g := (mkF m 1 #[.val (.ref a1), .val (.ref a2), .unset, .unset] [(.ref a2)])) rfl (by rw [hml]; rfl) (Steps.refl _) (argsL := []) (rest := []) (lenOf pd_10 rfl) rfl (by show 2 * 0 + _ ≤ _; exact Nat.le_of_eq rfl) (hb hby d7_1) (fun _ _ => ⟨rfl, e0, (by decide : 0 + 0 ≤ _), (by decide : 0 + 0 ≤ _)⟩)
  dsimp only [Pt.U, Pt.locs, Pt.cells, Pt.slots] at X6 l6 y6 z6 st6 hQ6
  subst l6 y6 z6
  obtain ⟨rfl, Nq6, e6⟩ := hQ6
  have N6 := Fr.app N0 Nq6
  obtain ⟨cq9, kq9, q9a, q9b, q9c⟩ := isOf hZ e6 E_3
  obtain ⟨_, _, ⟨T9, L9, k9, n9⟩, -, X9, ⟨Lc9, hQ9, l9, y9, z9⟩, st9⟩ := X6.virtualBack hx (y := (⟨"com/example/runqueue/runqueue/Outcome", "job", "()Lcom/example/runqueue/runqueue/Job;"⟩ : MethodName)) (z := (⟨"com/example/runqueue/runqueue/Outcome", "job", "()Lcom/example/runqueue/runqueue/Job;"⟩ : MethodName)) hown (mvT hZ (hw _ (List.mem_of_getElem? (i := 79) rfl))) (mvT hZ (hw _ (List.mem_of_getElem? (i := 80) rfl))) (notFace_of_selects (args := #[]) (mvT hZ (hw _ (List.mem_of_getElem? (i := 82) rfl)))) (mvT hZ (hw _ (List.mem_of_getElem? (i := 82) rfl))) (mvT hZ (hw _ (List.mem_of_getElem? (i := 81) rfl))) (by decide) (backOf (W := 0) (rm9 l Z a0 hw [] a2 a7 h0 n0 O0 F_8) hZ (hw _ (List.mem_of_getElem? (i := 83) rfl)) (hw _ (List.mem_of_getElem? (i := 45) rfl)) (by decide) (by decide)) q9a q9c (g := (mkF m 6 #[.val (.ref a1), .val (.ref a2), .val (.ref a4), .unset] [(.ref a2)])) rfl (by rw [hml]; rfl) (Steps.refl _) (argsL := []) (rest := []) (lenOf pd_11 rfl) rfl (by show 2 * 0 + _ ≤ _; exact Nat.le_of_eq rfl) (hb hby d7_6) (fun _ _ => ⟨rfl, e6, (by decide : 0 + 0 ≤ _), (by decide : 0 + 0 ≤ _)⟩)
  dsimp only [Pt.U, Pt.locs, Pt.cells, Pt.slots] at X9 l9 y9 z9 st9 hQ9
  subst l9 y9 z9
  obtain ⟨rfl, Nq9, e9⟩ := hQ9
  have N9 := Fr.app N6 Nq9
  obtain ⟨cq13, kq13, q13a, q13b, q13c⟩ := isOf hZ e9 E_10
  obtain ⟨_, _, ⟨T13, L13, k13, n13⟩, -, X13, ⟨Lc13, hQ13, l13, y13, z13⟩, st13⟩ := X9.virtualBack hx (y := (⟨"com/example/runqueue/runqueue/Job", "maxAttempts", "()I"⟩ : MethodName)) (z := (⟨"com/example/runqueue/runqueue/Job", "maxAttempts", "()I"⟩ : MethodName)) hown (mvT hZ (hw _ (List.mem_of_getElem? (i := 84) rfl))) (mvT hZ (hw _ (List.mem_of_getElem? (i := 85) rfl))) (notFace_of_selects (args := #[]) (mvT hZ (hw _ (List.mem_of_getElem? (i := 87) rfl)))) (mvT hZ (hw _ (List.mem_of_getElem? (i := 87) rfl))) (mvT hZ (hw _ (List.mem_of_getElem? (i := 86) rfl))) (by decide) (backOf (W := 0) (rm10 l Z a0 hw [] a7 p11 h0 n0 O0 F_12) hZ (hw _ (List.mem_of_getElem? (i := 88) rfl)) (hw _ (List.mem_of_getElem? (i := 6) rfl)) (by decide) (by decide)) q13a q13c (g := (mkF m 9 #[.val (.ref a1), .val (.ref a2), .val (.ref a4), .unset] [(.ref a7)])) rfl (by rw [hml]; rfl) (Steps.refl _) (argsL := []) (rest := []) (lenOf pd_12 rfl) rfl (by show 2 * 0 + _ ≤ _; exact Nat.le_of_eq rfl) (hb hby d7_9) (fun _ _ => ⟨rfl, e9, (by decide : 0 + 0 ≤ _), (by decide : 0 + 0 ≤ _)⟩)
  dsimp only [Pt.U, Pt.locs, Pt.cells, Pt.slots] at X13 l13 y13 z13 st13 hQ13
  subst l13 y13 z13
  obtain ⟨rfl, Nq13, e13⟩ := hQ13
  have N13 := Fr.app N9 Nq13
  obtain ⟨cq15, kq15, q15a, q15b, q15c⟩ := isOf hZ e13 E_3
  obtain ⟨_, _, ⟨T15, L15, k15, n15⟩, -, X15, ⟨Lc15, hQ15, l15, y15, z15⟩, st15⟩ := X13.virtualBack hx (y := (⟨"com/example/runqueue/runqueue/Outcome", "job", "()Lcom/example/runqueue/runqueue/Job;"⟩ : MethodName)) (z := (⟨"com/example/runqueue/runqueue/Outcome", "job", "()Lcom/example/runqueue/runqueue/Job;"⟩ : MethodName)) hown (mvT hZ (hw _ (List.mem_of_getElem? (i := 79) rfl))) (mvT hZ (hw _ (List.mem_of_getElem? (i := 80) rfl))) (notFace_of_selects (args := #[]) (mvT hZ (hw _ (List.mem_of_getElem? (i := 82) rfl)))) (mvT hZ (hw _ (List.mem_of_getElem? (i := 82) rfl))) (mvT hZ (hw _ (List.mem_of_getElem? (i := 81) rfl))) (by decide) (backOf (W := 0) (rm9 l Z a0 hw [] a2 a7 h0 n0 O0 F_8) hZ (hw _ (List.mem_of_getElem? (i := 83) rfl)) (hw _ (List.mem_of_getElem? (i := 45) rfl)) (by decide) (by decide)) q15a q15c (g := (mkF m 16 #[.val (.ref a1), .val (.ref a2), .val (.ref a4), .unset] [(.ref a2)])) rfl (by rw [hml]; rfl) (Steps.refl _) (argsL := []) (rest := []) (lenOf pd_11 rfl) rfl (by show 2 * 0 + _ ≤ _; exact Nat.le_of_eq rfl) (hb hby d7_16) (fun _ _ => ⟨rfl, e13, (by decide : 0 + 0 ≤ _), (by decide : 0 + 0 ≤ _)⟩)
  dsimp only [Pt.U, Pt.locs, Pt.cells, Pt.slots] at X15 l15 y15 z15 st15 hQ15
  subst l15 y15 z15
  obtain ⟨rfl, Nq15, e15⟩ := hQ15
  have N15 := Fr.app N13 Nq15
  obtain ⟨cq16, kq16, q16a, q16b, q16c⟩ := isOf hZ e15 E_10
  obtain ⟨_, _, ⟨T16, L16, k16, n16⟩, -, X16, ⟨Lc16, hQ16, l16, y16, z16⟩, st16⟩ := X15.virtualBack hx (y := (⟨"com/example/runqueue/runqueue/Job", "maxAttempts", "()I"⟩ : MethodName)) (z := (⟨"com/example/runqueue/runqueue/Job", "maxAttempts", "()I"⟩ : MethodName)) hown (mvT hZ (hw _ (List.mem_of_getElem? (i := 84) rfl))) (mvT hZ (hw _ (List.mem_of_getElem? (i := 85) rfl))) (notFace_of_selects (args := #[]) (mvT hZ (hw _ (List.mem_of_getElem? (i := 87) rfl)))) (mvT hZ (hw _ (List.mem_of_getElem? (i := 87) rfl))) (mvT hZ (hw _ (List.mem_of_getElem? (i := 86) rfl))) (by decide) (backOf (W := 0) (rm10 l Z a0 hw [] a7 p11 h0 n0 O0 F_12) hZ (hw _ (List.mem_of_getElem? (i := 88) rfl)) (hw _ (List.mem_of_getElem? (i := 6) rfl)) (by decide) (by decide)) q16a q16c (g := (mkF m 19 #[.val (.ref a1), .val (.ref a2), .val (.ref a4), .unset] [(.ref a7)])) rfl (by rw [hml]; rfl) (Steps.refl _) (argsL := []) (rest := []) (lenOf pd_12 rfl) rfl (by show 2 * 0 + _ ≤ _; exact Nat.le_of_eq rfl) (hb hby d7_19) (fun _ _ => ⟨rfl, e15, (by decide : 0 + 0 ≤ _), (by decide : 0 + 0 ≤ _)⟩)
  dsimp only [Pt.U, Pt.locs, Pt.cells, Pt.slots] at X16 l16 y16 z16 st16 hQ16
  subst l16 y16 z16
  obtain ⟨rfl, Nq16, e16⟩ := hQ16
  have N16 := Fr.app N15 Nq16
  obtain ⟨T19, X19, e19, st19⟩ := getS2 X16 hx hZ hown (host := "") (Or.inl (hw _ (List.mem_of_getElem? (i := 89) rfl))) Via.refl e16 (S_18.ext O0.2) (g := (mkF m 33 #[.val (.ref a1), .val (.ref a2), .val (.ref a4), .val (.int p11)] [(.ref a4)])) rfl (hb hby d7_33)
  obtain ⟨T21, X21, e21, st21⟩ := getS2 X19 hx hZ hown (host := "") (Or.inl (hw _ (List.mem_of_getElem? (i := 91) rfl))) Via.refl e19 (S_20.ext O0.2) (g := (mkF m 40 #[.val (.ref a1), .val (.ref a2), .val (.ref a4), .val (.int p11)] [(.ref a4)])) rfl (hb hby d7_40)
  obtain ⟨cq24, kq24, q24a, q24b, q24c⟩ := isOf hZ e21 E_3
  obtain ⟨_, _, ⟨T24, L24, k24, n24⟩, -, X24, ⟨Lc24, hQ24, l24, y24, z24⟩, st24⟩ := X21.virtualBack hx (y := (⟨"com/example/runqueue/runqueue/Outcome", "attempts", "()I"⟩ : MethodName)) (z := (⟨"com/example/runqueue/runqueue/Outcome", "attempts", "()I"⟩ : MethodName)) hown (mvT hZ (hw _ (List.mem_of_getElem? (i := 94) rfl))) (mvT hZ (hw _ (List.mem_of_getElem? (i := 95) rfl))) (notFace_of_selects (args := #[]) (mvT hZ (hw _ (List.mem_of_getElem? (i := 97) rfl)))) (mvT hZ (hw _ (List.mem_of_getElem? (i := 97) rfl))) (mvT hZ (hw _ (List.mem_of_getElem? (i := 96) rfl))) (by decide) (backOf (W := 0) (rm11 l Z a0 hw [] a2 p22 h0 n0 O0 F_23) hZ (hw _ (List.mem_of_getElem? (i := 98) rfl)) (hw _ (List.mem_of_getElem? (i := 45) rfl)) (by decide) (by decide)) q24a q24c (g := (mkF m 47 #[.val (.ref a1), .val (.ref a2), .val (.ref a4), .val (.int p11)] [(.ref a2)])) rfl (by rw [hml]; rfl) (Steps.refl _) (argsL := []) (rest := []) (lenOf pd_12 rfl) rfl (by show 2 * 0 + _ ≤ _; exact Nat.le_of_eq rfl) (hb hby d7_47) (fun _ _ => ⟨rfl, e21, (by decide : 0 + 0 ≤ _), (by decide : 0 + 0 ≤ _)⟩)
  dsimp only [Pt.U, Pt.locs, Pt.cells, Pt.slots] at X24 l24 y24 z24 st24 hQ24
  subst l24 y24 z24
  obtain ⟨rfl, Nq24, e24⟩ := hQ24
  have N24 := Fr.app N16 Nq24
  obtain ⟨fs, hr, hrun, hended, hW, hsame⟩ := X24.leave (v := some (.int (0 : Int32))) (fun h => by rw [Bd.returns] at h; cases h)
  refine ⟨_, _, pre0 _ ?_, hrun, hended, _, _, rfl, ?_, ⟨_, rfl⟩, hW, hsame.mono (by decide) (by decide)⟩
  · show Steps p.tables e below (s₁.setTop (mkF m 0 #[.val (.ref a1), .val (.ref a2), .unset, .unset] [])) _
    refine XS.aloadN X0.here hx rfl (hb hby d7_0) rfl rfl ?_
    show Steps p.tables e below (s₁.setTop (mkF m 1 #[.val (.ref a1), .val (.ref a2), .unset, .unset] [(.ref a2)])) _
    refine st6.trans ?_
    show Steps p.tables e below (T6.setTop (mkF m 4 #[.val (.ref a1), .val (.ref a2), .unset, .unset] [(.ref a4)])) _
    refine XS.astoreN X6.here hx rfl (hb hby d7_4) rfl rfl (l' := #[.val (.ref a1), .val (.ref a2), .val (.ref a4), .unset]) rfl ?_
    refine XS.aloadN X6.here hx rfl (hb hby d7_5) rfl rfl ?_
    show Steps p.tables e below (T6.setTop (mkF m 6 #[.val (.ref a1), .val (.ref a2), .val (.ref a4), .unset] [(.ref a2)])) _
    refine st9.trans ?_
    show Steps p.tables e below (T9.setTop (mkF m 9 #[.val (.ref a1), .val (.ref a2), .val (.ref a4), .unset] [(.ref a7)])) _
    refine st13.trans ?_
    show Steps p.tables e below (T13.setTop (mkF m 12 #[.val (.ref a1), .val (.ref a2), .val (.ref a4), .unset] [(.int p11)])) _
    refine XS.ifNo X13.here hx rfl (hb hby d7_12) rfl ((if0 _ _).trans (tlt (hc14 : (0 : Int32) < p11)).2.2.2) ?_
    refine XS.aloadN X13.here hx rfl (hb hby d7_15) rfl rfl ?_
    show Steps p.tables e below (T13.setTop (mkF m 16 #[.val (.ref a1), .val (.ref a2), .val (.ref a4), .unset] [(.ref a2)])) _
    refine st15.trans ?_
    show Steps p.tables e below (T15.setTop (mkF m 19 #[.val (.ref a1), .val (.ref a2), .val (.ref a4), .unset] [(.ref a7)])) _
    refine st16.trans ?_
    show Steps p.tables e below (T16.setTop (mkF m 22 #[.val (.ref a1), .val (.ref a2), .val (.ref a4), .unset] [(.int p11)])) _
    refine XS.goto X16.here hx rfl (pc0 := 22) (pc' := 31) rfl (hb hby d7_22) (by decide) (by decide) ?_
    refine XS.istoreN X16.here hx rfl (hb hby d7_31) rfl (l' := #[.val (.ref a1), .val (.ref a2), .val (.ref a4), .val (.int p11)]) rfl ?_
    refine XS.aloadN X16.here hx rfl (hb hby d7_32) rfl rfl ?_
    show Steps p.tables e below (T16.setTop (mkF m 33 #[.val (.ref a1), .val (.ref a2), .val (.ref a4), .val (.int p11)] [(.ref a4)])) _
    refine st19 _ ?_
    show Steps p.tables e below (T19.setTop (mkF m 36 #[.val (.ref a1), .val (.ref a2), .val (.ref a4), .val (.int p11)] [(.ref a17), (.ref a4)])) _
    refine Jvm.RoadKit.acmp (g := (mkF m 36 #[.val (.ref a1), .val (.ref a2), .val (.ref a4), .val (.int p11)] [(.ref a17), (.ref a4)])) X19 hx rfl rfl rfl (pc0 := 36) (pc' := 39) (same := false) rfl (hb hby d7_36) rfl (decide_eq_false fun q => ne_a4_a17 (Value.ref.inj q)) (by decide) (by decide) ?_
    refine XS.aloadN X19.here hx rfl (hb hby d7_39) rfl rfl ?_
    show Steps p.tables e below (T19.setTop (mkF m 40 #[.val (.ref a1), .val (.ref a2), .val (.ref a4), .val (.int p11)] [(.ref a4)])) _
    refine st21 _ ?_
    show Steps p.tables e below (T21.setTop (mkF m 43 #[.val (.ref a1), .val (.ref a2), .val (.ref a4), .val (.int p11)] [(.ref a4), (.ref a4)])) _
    refine Jvm.RoadKit.acmp (g := (mkF m 43 #[.val (.ref a1), .val (.ref a2), .val (.ref a4), .val (.int p11)] [(.ref a4), (.ref a4)])) X21 hx rfl rfl rfl (pc0 := 43) (pc' := 46) (same := true) rfl (hb hby d7_43) rfl (decide_eq_true rfl) (by decide) (by decide) ?_
    refine XS.aloadN X21.here hx rfl (hb hby d7_46) rfl rfl ?_
    show Steps p.tables e below (T21.setTop (mkF m 47 #[.val (.ref a1), .val (.ref a2), .val (.ref a4), .val (.int p11)] [(.ref a2)])) _
    refine st24.trans ?_
    show Steps p.tables e below (T24.setTop (mkF m 50 #[.val (.ref a1), .val (.ref a2), .val (.ref a4), .val (.int p11)] [(.int p22)])) _
    refine XS.iloadN X24.here hx rfl (hb hby d7_50) rfl ?_
    show Steps p.tables e below (T24.setTop (mkF m 51 #[.val (.ref a1), .val (.ref a2), .val (.ref a4), .val (.int p11)] [(.int p11), (.int p22)])) _
    refine XS.icmpYes X24.here hx rfl (pc0 := 51) (pc' := 58) rfl (hb hby d7_51) rfl (flt (hc25 : ¬ (p22 < p11))).2.1 (by decide) (by decide) ?_
    refine XS.iconst X24.here hx rfl (hb hby d7_58) ?_
    show Steps p.tables e below (T24.setTop (mkF m 59 #[.val (.ref a1), .val (.ref a2), .val (.ref a4), .val (.int p11)] [(.int (0 : Int32))])) _
    exact retN X24 hx (t := .boolean) Bd.returns (by simp) (hb hby d7_59) hr
  · show Qrm7_7 Z a1 a2 a4 a7 p11 a17 p22 h0 n0 _ T24.heap _
    rw [e24]
    exact ⟨rfl, N24, rfl⟩
def Qrm7_8 (Z : State) (a1 : Addr) (a2 : Addr) (a4 : Addr) (a7 : Addr) (p11 : Int32) (p15 : Int32) (a18 : Addr) (p23 : Int32) (h0 : Heap) (n0 : Nat) (v : Option Value) (h : Heap) (L : List Loc) : Prop := v = some (.int (1 : Int32)) ∧ Fr n0 L ∧ h = h0
set_option maxRecDepth 65536 in
set_option maxHeartbeats 40000000 in
theorem rm7_8 (l : Launch) (Z : State) (a0 : Array Value) (hw : ∀ d ∈ tables_1, d.before a0 Z = true) (ws : List Jvm.Cond) (a1 : Addr) (a2 : Addr) (a4 : Addr) (a7 : Addr) (p11 : Int32) (p15 : Int32) (a18 : Addr) (p23 : Int32) (h0 : Heap) (n0 : Nat) (O0 : Old Z n0 h0) (E_3 : Exa Z h0 a2 "com/example/runqueue/runqueue/Outcome") (F_5 : Fld Z h0 a2 "com/example/runqueue/runqueue/Outcome" "state" "Lcom/example/runqueue/runqueue/Outcome$State;" (.ref a4)) (F_8 : Fld Z h0 a2 "com/example/runqueue/runqueue/Outcome" "job" "Lcom/example/runqueue/runqueue/Job;" (.ref a7)) (E_10 : Exa Z h0 a7 "com/example/runqueue/runqueue/Job") (F_12 : Fld Z h0 a7 "com/example/runqueue/runqueue/Job" "maxAttempts" "I" (.int p11)) (hc14 : ¬ ((0 : Int32) < p11)) (F_16 : Fld Z h0 a1 "com/example/runqueue/runqueue/Retries" "count" "I" (.int p15)) (S_19 : Sta Z Z.heap "com/example/runqueue/runqueue/Outcome$State" "FAILED" "Lcom/example/runqueue/runqueue/Outcome$State;" (.ref a18)) (ne_a4_a18 : a4 ≠ a18) (S_21 : Sta Z Z.heap "com/example/runqueue/runqueue/Outcome$State" "TIMEOUT" "Lcom/example/runqueue/runqueue/Outcome$State;" (.ref a4)) (F_24 : Fld Z h0 a2 "com/example/runqueue/runqueue/Outcome" "attempts" "I" (.int p23)) (hc26 : p23 < ((1 : Int32) + p15)) :
    MetFree l (⟨"com/example/runqueue/runqueue/Retries", "again", "(Lcom/example/runqueue/runqueue/Outcome;)Z"⟩ : MethodName) (head1 (Jvm.Cond.code (⟨"com/example/runqueue/runqueue/Retries", "again", "(Lcom/example/runqueue/runqueue/Outcome;)Z"⟩ : MethodName) prog_36_method_2_code 4 (some .boolean) :: ws) ({ frames := 1, cells := 0, slots := 0, locals := 12 } : Room)) (fun a U => a = #[(.ref a1), (.ref a2)] ∧ Z.Warmed39 U.vm ∧ U.heap = h0) (fun _ _ _ _ _ => True) (fun _ U o U' => ∃ v L, o = .returned v ∧ Qrm7_8 Z a1 a2 a4 a7 p11 p15 a18 p23 h0 n0 v U'.heap L ∧ FrameEnd U o U' L ({ frames := 1, cells := 0, slots := 0, locals := 12 } : Room).cells ({ frames := 1, cells := 0, slots := 0, locals := 12 } : Room).slots) := by
  refine MetFree.of_bodySF (plainFor_of_name pn_8) hisR ?_
  intro p e s m args below meth c s₁ Bd hml0 hP hK
  obtain ⟨rfl, hZ, hh⟩ := hP
  have hx := Bd.exec
  have hby := Bd.bytes
  have hml : c.maxLocals = 4 := hml0
  have hown : s.vm.findClass "com/example/runqueue/runqueue/Retries" = some m.cls := findClass_of_methodNamed Bd.named
  have hnm := (name_of_methodNamed Bd.named Bd.method).1
  have X0 : Stand p l e ({ frames := 1, cells := 0, slots := 0, locals := 12 } : Room) s m #[(.ref a1), (.ref a2)] below meth c s₁ [] 0 0 := Stand.of_body Bd
  have e0 : s₁.heap = h0 := by rw [← hh, Bd.state]; rfl
  have N0 := Fr.nil n0
  have pre0 : ∀ t, Steps p.tables e below (s₁.setTop (mkF m 0 #[.val (.ref a1), .val (.ref a2), .unset, .unset] [])) t → Steps p.tables e below (s₁.setTop (entryFrame m #[(.ref a1), (.ref a2)] 4)) t := fun t k => castTop (ef_7_RR m a1 a2) k
  obtain ⟨cq6, kq6, q6a, q6b, q6c⟩ := isOf hZ e0 E_3
  obtain ⟨_, _, ⟨T6, L6, k6, n6⟩, -, X6, ⟨Lc6, hQ6, l6, y6, z6⟩, st6⟩ := X0.virtualBack hx (y := (⟨"com/example/runqueue/runqueue/Outcome", "state", "()Lcom/example/runqueue/runqueue/Outcome$State;"⟩ : MethodName)) (z := (⟨"com/example/runqueue/runqueue/Outcome", "state", "()Lcom/example/runqueue/runqueue/Outcome$State;"⟩ : MethodName)) hown (mvT hZ (hw _ (List.mem_of_getElem? (i := 74) rfl))) (mvT hZ (hw _ (List.mem_of_getElem? (i := 75) rfl))) (notFace_of_selects (args := #[]) (mvT hZ (hw _ (List.mem_of_getElem? (i := 77) rfl)))) (mvT hZ (hw _ (List.mem_of_getElem? (i := 77) rfl))) (mvT hZ (hw _ (List.mem_of_getElem? (i := 76) rfl))) (by decide) (backOf (W := 0) (rm8 l Z a0 hw [] a2 a4 h0 n0 O0 F_5) hZ (hw _ (List.mem_of_getElem? (i := 78) rfl)) (hw _ (List.mem_of_getElem? (i := 45) rfl)) (by decide) (by decide)) q6a q6c (g := (mkF m 1 #[.val (.ref a1), .val (.ref a2), .unset, .unset] [(.ref a2)])) rfl (by rw [hml]; rfl) (Steps.refl _) (argsL := []) (rest := []) (lenOf pd_10 rfl) rfl (by show 2 * 0 + _ ≤ _; exact Nat.le_of_eq rfl) (hb hby d7_1) (fun _ _ => ⟨rfl, e0, (by decide : 0 + 0 ≤ _), (by decide : 0 + 0 ≤ _)⟩)
  dsimp only [Pt.U, Pt.locs, Pt.cells, Pt.slots] at X6 l6 y6 z6 st6 hQ6
  subst l6 y6 z6
  obtain ⟨rfl, Nq6, e6⟩ := hQ6
  have N6 := Fr.app N0 Nq6
  obtain ⟨cq9, kq9, q9a, q9b, q9c⟩ := isOf hZ e6 E_3
  obtain ⟨_, _, ⟨T9, L9, k9, n9⟩, -, X9, ⟨Lc9, hQ9, l9, y9, z9⟩, st9⟩ := X6.virtualBack hx (y := (⟨"com/example/runqueue/runqueue/Outcome", "job", "()Lcom/example/runqueue/runqueue/Job;"⟩ : MethodName)) (z := (⟨"com/example/runqueue/runqueue/Outcome", "job", "()Lcom/example/runqueue/runqueue/Job;"⟩ : MethodName)) hown (mvT hZ (hw _ (List.mem_of_getElem? (i := 79) rfl))) (mvT hZ (hw _ (List.mem_of_getElem? (i := 80) rfl))) (notFace_of_selects (args := #[]) (mvT hZ (hw _ (List.mem_of_getElem? (i := 82) rfl)))) (mvT hZ (hw _ (List.mem_of_getElem? (i := 82) rfl))) (mvT hZ (hw _ (List.mem_of_getElem? (i := 81) rfl))) (by decide) (backOf (W := 0) (rm9 l Z a0 hw [] a2 a7 h0 n0 O0 F_8) hZ (hw _ (List.mem_of_getElem? (i := 83) rfl)) (hw _ (List.mem_of_getElem? (i := 45) rfl)) (by decide) (by decide)) q9a q9c (g := (mkF m 6 #[.val (.ref a1), .val (.ref a2), .val (.ref a4), .unset] [(.ref a2)])) rfl (by rw [hml]; rfl) (Steps.refl _) (argsL := []) (rest := []) (lenOf pd_11 rfl) rfl (by show 2 * 0 + _ ≤ _; exact Nat.le_of_eq rfl) (hb hby d7_6) (fun _ _ => ⟨rfl, e6, (by decide : 0 + 0 ≤ _), (by decide : 0 + 0 ≤ _)⟩)
  dsimp only [Pt.U, Pt.locs, Pt.cells, Pt.slots] at X9 l9 y9 z9 st9 hQ9
  subst l9 y9 z9
  obtain ⟨rfl, Nq9, e9⟩ := hQ9
  have N9 := Fr.app N6 Nq9
  obtain ⟨cq13, kq13, q13a, q13b, q13c⟩ := isOf hZ e9 E_10
  obtain ⟨_, _, ⟨T13, L13, k13, n13⟩, -, X13, ⟨Lc13, hQ13, l13, y13, z13⟩, st13⟩ := X9.virtualBack hx (y := (⟨"com/example/runqueue/runqueue/Job", "maxAttempts", "()I"⟩ : MethodName)) (z := (⟨"com/example/runqueue/runqueue/Job", "maxAttempts", "()I"⟩ : MethodName)) hown (mvT hZ (hw _ (List.mem_of_getElem? (i := 84) rfl))) (mvT hZ (hw _ (List.mem_of_getElem? (i := 85) rfl))) (notFace_of_selects (args := #[]) (mvT hZ (hw _ (List.mem_of_getElem? (i := 87) rfl)))) (mvT hZ (hw _ (List.mem_of_getElem? (i := 87) rfl))) (mvT hZ (hw _ (List.mem_of_getElem? (i := 86) rfl))) (by decide) (backOf (W := 0) (rm10 l Z a0 hw [] a7 p11 h0 n0 O0 F_12) hZ (hw _ (List.mem_of_getElem? (i := 88) rfl)) (hw _ (List.mem_of_getElem? (i := 6) rfl)) (by decide) (by decide)) q13a q13c (g := (mkF m 9 #[.val (.ref a1), .val (.ref a2), .val (.ref a4), .unset] [(.ref a7)])) rfl (by rw [hml]; rfl) (Steps.refl _) (argsL := []) (rest := []) (lenOf pd_12 rfl) rfl (by show 2 * 0 + _ ≤ _; exact Nat.le_of_eq rfl) (hb hby d7_9) (fun _ _ => ⟨rfl, e9, (by decide : 0 + 0 ≤ _), (by decide : 0 + 0 ≤ _)⟩)
  dsimp only [Pt.U, Pt.locs, Pt.cells, Pt.slots] at X13 l13 y13 z13 st13 hQ13
  subst l13 y13 z13
  obtain ⟨rfl, Nq13, e13⟩ := hQ13
  have N13 := Fr.app N9 Nq13
  obtain ⟨T17, X17, e17, st17⟩ := getF X13 hx hZ hown (host := "") (Or.inl (hw _ (List.mem_of_getElem? (i := 65) rfl))) Via.refl e13 F_16 (g := (mkF m 27 #[.val (.ref a1), .val (.ref a2), .val (.ref a4), .unset] [(.ref a1), (.int (1 : Int32))])) rfl rfl (hb hby d7_27)
  obtain ⟨T20, X20, e20, st20⟩ := getS2 X17 hx hZ hown (host := "") (Or.inl (hw _ (List.mem_of_getElem? (i := 89) rfl))) Via.refl e17 (S_19.ext O0.2) (g := (mkF m 33 #[.val (.ref a1), .val (.ref a2), .val (.ref a4), .val (.int ((1 : Int32) + p15))] [(.ref a4)])) rfl (hb hby d7_33)
  obtain ⟨T22, X22, e22, st22⟩ := getS2 X20 hx hZ hown (host := "") (Or.inl (hw _ (List.mem_of_getElem? (i := 91) rfl))) Via.refl e20 (S_21.ext O0.2) (g := (mkF m 40 #[.val (.ref a1), .val (.ref a2), .val (.ref a4), .val (.int ((1 : Int32) + p15))] [(.ref a4)])) rfl (hb hby d7_40)
  obtain ⟨cq25, kq25, q25a, q25b, q25c⟩ := isOf hZ e22 E_3
  obtain ⟨_, _, ⟨T25, L25, k25, n25⟩, -, X25, ⟨Lc25, hQ25, l25, y25, z25⟩, st25⟩ := X22.virtualBack hx (y := (⟨"com/example/runqueue/runqueue/Outcome", "attempts", "()I"⟩ : MethodName)) (z := (⟨"com/example/runqueue/runqueue/Outcome", "attempts", "()I"⟩ : MethodName)) hown (mvT hZ (hw _ (List.mem_of_getElem? (i := 94) rfl))) (mvT hZ (hw _ (List.mem_of_getElem? (i := 95) rfl))) (notFace_of_selects (args := #[]) (mvT hZ (hw _ (List.mem_of_getElem? (i := 97) rfl)))) (mvT hZ (hw _ (List.mem_of_getElem? (i := 97) rfl))) (mvT hZ (hw _ (List.mem_of_getElem? (i := 96) rfl))) (by decide) (backOf (W := 0) (rm11 l Z a0 hw [] a2 p23 h0 n0 O0 F_24) hZ (hw _ (List.mem_of_getElem? (i := 98) rfl)) (hw _ (List.mem_of_getElem? (i := 45) rfl)) (by decide) (by decide)) q25a q25c (g := (mkF m 47 #[.val (.ref a1), .val (.ref a2), .val (.ref a4), .val (.int ((1 : Int32) + p15))] [(.ref a2)])) rfl (by rw [hml]; rfl) (Steps.refl _) (argsL := []) (rest := []) (lenOf pd_12 rfl) rfl (by show 2 * 0 + _ ≤ _; exact Nat.le_of_eq rfl) (hb hby d7_47) (fun _ _ => ⟨rfl, e22, (by decide : 0 + 0 ≤ _), (by decide : 0 + 0 ≤ _)⟩)
  dsimp only [Pt.U, Pt.locs, Pt.cells, Pt.slots] at X25 l25 y25 z25 st25 hQ25
  subst l25 y25 z25
  obtain ⟨rfl, Nq25, e25⟩ := hQ25
  have N25 := Fr.app N13 Nq25
  obtain ⟨fs, hr, hrun, hended, hW, hsame⟩ := X25.leave (v := some (.int (1 : Int32))) (fun h => by rw [Bd.returns] at h; cases h)
  refine ⟨_, _, pre0 _ ?_, hrun, hended, _, _, rfl, ?_, ⟨_, rfl⟩, hW, hsame.mono (by decide) (by decide)⟩
  · show Steps p.tables e below (s₁.setTop (mkF m 0 #[.val (.ref a1), .val (.ref a2), .unset, .unset] [])) _
    refine XS.aloadN X0.here hx rfl (hb hby d7_0) rfl rfl ?_
    show Steps p.tables e below (s₁.setTop (mkF m 1 #[.val (.ref a1), .val (.ref a2), .unset, .unset] [(.ref a2)])) _
    refine st6.trans ?_
    show Steps p.tables e below (T6.setTop (mkF m 4 #[.val (.ref a1), .val (.ref a2), .unset, .unset] [(.ref a4)])) _
    refine XS.astoreN X6.here hx rfl (hb hby d7_4) rfl rfl (l' := #[.val (.ref a1), .val (.ref a2), .val (.ref a4), .unset]) rfl ?_
    refine XS.aloadN X6.here hx rfl (hb hby d7_5) rfl rfl ?_
    show Steps p.tables e below (T6.setTop (mkF m 6 #[.val (.ref a1), .val (.ref a2), .val (.ref a4), .unset] [(.ref a2)])) _
    refine st9.trans ?_
    show Steps p.tables e below (T9.setTop (mkF m 9 #[.val (.ref a1), .val (.ref a2), .val (.ref a4), .unset] [(.ref a7)])) _
    refine st13.trans ?_
    show Steps p.tables e below (T13.setTop (mkF m 12 #[.val (.ref a1), .val (.ref a2), .val (.ref a4), .unset] [(.int p11)])) _
    refine XS.ifYes X13.here hx rfl (pc0 := 12) (pc' := 25) rfl (hb hby d7_12) rfl ((if0 _ _).trans (flt (hc14 : ¬ ((0 : Int32) < p11))).2.2.2) (by decide) (by decide) ?_
    refine XS.iconst X13.here hx rfl (hb hby d7_25) ?_
    refine XS.aloadN X13.here hx rfl (hb hby d7_26) rfl rfl ?_
    show Steps p.tables e below (T13.setTop (mkF m 27 #[.val (.ref a1), .val (.ref a2), .val (.ref a4), .unset] [(.ref a1), (.int (1 : Int32))])) _
    refine st17 _ ?_
    show Steps p.tables e below (T17.setTop (mkF m 30 #[.val (.ref a1), .val (.ref a2), .val (.ref a4), .unset] [(.int p15), (.int (1 : Int32))])) _
    refine XS.iadd X17.here hx rfl (hb hby d7_30) rfl ?_
    refine XS.istoreN X17.here hx rfl (hb hby d7_31) rfl (l' := #[.val (.ref a1), .val (.ref a2), .val (.ref a4), .val (.int ((1 : Int32) + p15))]) rfl ?_
    refine XS.aloadN X17.here hx rfl (hb hby d7_32) rfl rfl ?_
    show Steps p.tables e below (T17.setTop (mkF m 33 #[.val (.ref a1), .val (.ref a2), .val (.ref a4), .val (.int ((1 : Int32) + p15))] [(.ref a4)])) _
    refine st20 _ ?_
    show Steps p.tables e below (T20.setTop (mkF m 36 #[.val (.ref a1), .val (.ref a2), .val (.ref a4), .val (.int ((1 : Int32) + p15))] [(.ref a18), (.ref a4)])) _
    refine Jvm.RoadKit.acmp (g := (mkF m 36 #[.val (.ref a1), .val (.ref a2), .val (.ref a4), .val (.int ((1 : Int32) + p15))] [(.ref a18), (.ref a4)])) X20 hx rfl rfl rfl (pc0 := 36) (pc' := 39) (same := false) rfl (hb hby d7_36) rfl (decide_eq_false fun q => ne_a4_a18 (Value.ref.inj q)) (by decide) (by decide) ?_
    refine XS.aloadN X20.here hx rfl (hb hby d7_39) rfl rfl ?_
    show Steps p.tables e below (T20.setTop (mkF m 40 #[.val (.ref a1), .val (.ref a2), .val (.ref a4), .val (.int ((1 : Int32) + p15))] [(.ref a4)])) _
    refine st22 _ ?_
    show Steps p.tables e below (T22.setTop (mkF m 43 #[.val (.ref a1), .val (.ref a2), .val (.ref a4), .val (.int ((1 : Int32) + p15))] [(.ref a4), (.ref a4)])) _
    refine Jvm.RoadKit.acmp (g := (mkF m 43 #[.val (.ref a1), .val (.ref a2), .val (.ref a4), .val (.int ((1 : Int32) + p15))] [(.ref a4), (.ref a4)])) X22 hx rfl rfl rfl (pc0 := 43) (pc' := 46) (same := true) rfl (hb hby d7_43) rfl (decide_eq_true rfl) (by decide) (by decide) ?_
    refine XS.aloadN X22.here hx rfl (hb hby d7_46) rfl rfl ?_
    show Steps p.tables e below (T22.setTop (mkF m 47 #[.val (.ref a1), .val (.ref a2), .val (.ref a4), .val (.int ((1 : Int32) + p15))] [(.ref a2)])) _
    refine st25.trans ?_
    show Steps p.tables e below (T25.setTop (mkF m 50 #[.val (.ref a1), .val (.ref a2), .val (.ref a4), .val (.int ((1 : Int32) + p15))] [(.int p23)])) _
    refine XS.iloadN X25.here hx rfl (hb hby d7_50) rfl ?_
    show Steps p.tables e below (T25.setTop (mkF m 51 #[.val (.ref a1), .val (.ref a2), .val (.ref a4), .val (.int ((1 : Int32) + p15))] [(.int ((1 : Int32) + p15)), (.int p23)])) _
    refine XS.icmpNo X25.here hx rfl (hb hby d7_51) rfl (tlt (hc26 : p23 < ((1 : Int32) + p15))).2.1 ?_
    refine XS.iconst X25.here hx rfl (hb hby d7_54) ?_
    refine XS.goto X25.here hx rfl (pc0 := 55) (pc' := 59) rfl (hb hby d7_55) (by decide) (by decide) ?_
    show Steps p.tables e below (T25.setTop (mkF m 59 #[.val (.ref a1), .val (.ref a2), .val (.ref a4), .val (.int ((1 : Int32) + p15))] [(.int (1 : Int32))])) _
    exact retN X25 hx (t := .boolean) Bd.returns (by simp) (hb hby d7_59) hr
  · show Qrm7_8 Z a1 a2 a4 a7 p11 p15 a18 p23 h0 n0 _ T25.heap _
    rw [e25]
    exact ⟨rfl, N25, rfl⟩
def Qrm7_9 (Z : State) (a1 : Addr) (a2 : Addr) (a4 : Addr) (a7 : Addr) (p11 : Int32) (p15 : Int32) (a18 : Addr) (p23 : Int32) (h0 : Heap) (n0 : Nat) (v : Option Value) (h : Heap) (L : List Loc) : Prop := v = some (.int (0 : Int32)) ∧ Fr n0 L ∧ h = h0
set_option maxRecDepth 65536 in
set_option maxHeartbeats 40000000 in
theorem rm7_9 (l : Launch) (Z : State) (a0 : Array Value) (hw : ∀ d ∈ tables_1, d.before a0 Z = true) (ws : List Jvm.Cond) (a1 : Addr) (a2 : Addr) (a4 : Addr) (a7 : Addr) (p11 : Int32) (p15 : Int32) (a18 : Addr) (p23 : Int32) (h0 : Heap) (n0 : Nat) (O0 : Old Z n0 h0) (E_3 : Exa Z h0 a2 "com/example/runqueue/runqueue/Outcome") (F_5 : Fld Z h0 a2 "com/example/runqueue/runqueue/Outcome" "state" "Lcom/example/runqueue/runqueue/Outcome$State;" (.ref a4)) (F_8 : Fld Z h0 a2 "com/example/runqueue/runqueue/Outcome" "job" "Lcom/example/runqueue/runqueue/Job;" (.ref a7)) (E_10 : Exa Z h0 a7 "com/example/runqueue/runqueue/Job") (F_12 : Fld Z h0 a7 "com/example/runqueue/runqueue/Job" "maxAttempts" "I" (.int p11)) (hc14 : ¬ ((0 : Int32) < p11)) (F_16 : Fld Z h0 a1 "com/example/runqueue/runqueue/Retries" "count" "I" (.int p15)) (S_19 : Sta Z Z.heap "com/example/runqueue/runqueue/Outcome$State" "FAILED" "Lcom/example/runqueue/runqueue/Outcome$State;" (.ref a18)) (ne_a4_a18 : a4 ≠ a18) (S_21 : Sta Z Z.heap "com/example/runqueue/runqueue/Outcome$State" "TIMEOUT" "Lcom/example/runqueue/runqueue/Outcome$State;" (.ref a4)) (F_24 : Fld Z h0 a2 "com/example/runqueue/runqueue/Outcome" "attempts" "I" (.int p23)) (hc26 : ¬ (p23 < ((1 : Int32) + p15))) :
    MetFree l (⟨"com/example/runqueue/runqueue/Retries", "again", "(Lcom/example/runqueue/runqueue/Outcome;)Z"⟩ : MethodName) (head1 (Jvm.Cond.code (⟨"com/example/runqueue/runqueue/Retries", "again", "(Lcom/example/runqueue/runqueue/Outcome;)Z"⟩ : MethodName) prog_36_method_2_code 4 (some .boolean) :: ws) ({ frames := 1, cells := 0, slots := 0, locals := 12 } : Room)) (fun a U => a = #[(.ref a1), (.ref a2)] ∧ Z.Warmed39 U.vm ∧ U.heap = h0) (fun _ _ _ _ _ => True) (fun _ U o U' => ∃ v L, o = .returned v ∧ Qrm7_9 Z a1 a2 a4 a7 p11 p15 a18 p23 h0 n0 v U'.heap L ∧ FrameEnd U o U' L ({ frames := 1, cells := 0, slots := 0, locals := 12 } : Room).cells ({ frames := 1, cells := 0, slots := 0, locals := 12 } : Room).slots) := by
  refine MetFree.of_bodySF (plainFor_of_name pn_8) hisR ?_
  intro p e s m args below meth c s₁ Bd hml0 hP hK
  obtain ⟨rfl, hZ, hh⟩ := hP
  have hx := Bd.exec
  have hby := Bd.bytes
  have hml : c.maxLocals = 4 := hml0
  have hown : s.vm.findClass "com/example/runqueue/runqueue/Retries" = some m.cls := findClass_of_methodNamed Bd.named
  have hnm := (name_of_methodNamed Bd.named Bd.method).1
  have X0 : Stand p l e ({ frames := 1, cells := 0, slots := 0, locals := 12 } : Room) s m #[(.ref a1), (.ref a2)] below meth c s₁ [] 0 0 := Stand.of_body Bd
  have e0 : s₁.heap = h0 := by rw [← hh, Bd.state]; rfl
  have N0 := Fr.nil n0
  have pre0 : ∀ t, Steps p.tables e below (s₁.setTop (mkF m 0 #[.val (.ref a1), .val (.ref a2), .unset, .unset] [])) t → Steps p.tables e below (s₁.setTop (entryFrame m #[(.ref a1), (.ref a2)] 4)) t := fun t k => castTop (ef_7_RR m a1 a2) k
  obtain ⟨cq6, kq6, q6a, q6b, q6c⟩ := isOf hZ e0 E_3
  obtain ⟨_, _, ⟨T6, L6, k6, n6⟩, -, X6, ⟨Lc6, hQ6, l6, y6, z6⟩, st6⟩ := X0.virtualBack hx (y := (⟨"com/example/runqueue/runqueue/Outcome", "state", "()Lcom/example/runqueue/runqueue/Outcome$State;"⟩ : MethodName)) (z := (⟨"com/example/runqueue/runqueue/Outcome", "state", "()Lcom/example/runqueue/runqueue/Outcome$State;"⟩ : MethodName)) hown (mvT hZ (hw _ (List.mem_of_getElem? (i := 74) rfl))) (mvT hZ (hw _ (List.mem_of_getElem? (i := 75) rfl))) (notFace_of_selects (args := #[]) (mvT hZ (hw _ (List.mem_of_getElem? (i := 77) rfl)))) (mvT hZ (hw _ (List.mem_of_getElem? (i := 77) rfl))) (mvT hZ (hw _ (List.mem_of_getElem? (i := 76) rfl))) (by decide) (backOf (W := 0) (rm8 l Z a0 hw [] a2 a4 h0 n0 O0 F_5) hZ (hw _ (List.mem_of_getElem? (i := 78) rfl)) (hw _ (List.mem_of_getElem? (i := 45) rfl)) (by decide) (by decide)) q6a q6c (g := (mkF m 1 #[.val (.ref a1), .val (.ref a2), .unset, .unset] [(.ref a2)])) rfl (by rw [hml]; rfl) (Steps.refl _) (argsL := []) (rest := []) (lenOf pd_10 rfl) rfl (by show 2 * 0 + _ ≤ _; exact Nat.le_of_eq rfl) (hb hby d7_1) (fun _ _ => ⟨rfl, e0, (by decide : 0 + 0 ≤ _), (by decide : 0 + 0 ≤ _)⟩)
  dsimp only [Pt.U, Pt.locs, Pt.cells, Pt.slots] at X6 l6 y6 z6 st6 hQ6
  subst l6 y6 z6
  obtain ⟨rfl, Nq6, e6⟩ := hQ6
  have N6 := Fr.app N0 Nq6
  obtain ⟨cq9, kq9, q9a, q9b, q9c⟩ := isOf hZ e6 E_3
  obtain ⟨_, _, ⟨T9, L9, k9, n9⟩, -, X9, ⟨Lc9, hQ9, l9, y9, z9⟩, st9⟩ := X6.virtualBack hx (y := (⟨"com/example/runqueue/runqueue/Outcome", "job", "()Lcom/example/runqueue/runqueue/Job;"⟩ : MethodName)) (z := (⟨"com/example/runqueue/runqueue/Outcome", "job", "()Lcom/example/runqueue/runqueue/Job;"⟩ : MethodName)) hown (mvT hZ (hw _ (List.mem_of_getElem? (i := 79) rfl))) (mvT hZ (hw _ (List.mem_of_getElem? (i := 80) rfl))) (notFace_of_selects (args := #[]) (mvT hZ (hw _ (List.mem_of_getElem? (i := 82) rfl)))) (mvT hZ (hw _ (List.mem_of_getElem? (i := 82) rfl))) (mvT hZ (hw _ (List.mem_of_getElem? (i := 81) rfl))) (by decide) (backOf (W := 0) (rm9 l Z a0 hw [] a2 a7 h0 n0 O0 F_8) hZ (hw _ (List.mem_of_getElem? (i := 83) rfl)) (hw _ (List.mem_of_getElem? (i := 45) rfl)) (by decide) (by decide)) q9a q9c (g := (mkF m 6 #[.val (.ref a1), .val (.ref a2), .val (.ref a4), .unset] [(.ref a2)])) rfl (by rw [hml]; rfl) (Steps.refl _) (argsL := []) (rest := []) (lenOf pd_11 rfl) rfl (by show 2 * 0 + _ ≤ _; exact Nat.le_of_eq rfl) (hb hby d7_6) (fun _ _ => ⟨rfl, e6, (by decide : 0 + 0 ≤ _), (by decide : 0 + 0 ≤ _)⟩)
  dsimp only [Pt.U, Pt.locs, Pt.cells, Pt.slots] at X9 l9 y9 z9 st9 hQ9
  subst l9 y9 z9
  obtain ⟨rfl, Nq9, e9⟩ := hQ9
  have N9 := Fr.app N6 Nq9
  obtain ⟨cq13, kq13, q13a, q13b, q13c⟩ := isOf hZ e9 E_10
  obtain ⟨_, _, ⟨T13, L13, k13, n13⟩, -, X13, ⟨Lc13, hQ13, l13, y13, z13⟩, st13⟩ := X9.virtualBack hx (y := (⟨"com/example/runqueue/runqueue/Job", "maxAttempts", "()I"⟩ : MethodName)) (z := (⟨"com/example/runqueue/runqueue/Job", "maxAttempts", "()I"⟩ : MethodName)) hown (mvT hZ (hw _ (List.mem_of_getElem? (i := 84) rfl))) (mvT hZ (hw _ (List.mem_of_getElem? (i := 85) rfl))) (notFace_of_selects (args := #[]) (mvT hZ (hw _ (List.mem_of_getElem? (i := 87) rfl)))) (mvT hZ (hw _ (List.mem_of_getElem? (i := 87) rfl))) (mvT hZ (hw _ (List.mem_of_getElem? (i := 86) rfl))) (by decide) (backOf (W := 0) (rm10 l Z a0 hw [] a7 p11 h0 n0 O0 F_12) hZ (hw _ (List.mem_of_getElem? (i := 88) rfl)) (hw _ (List.mem_of_getElem? (i := 6) rfl)) (by decide) (by decide)) q13a q13c (g := (mkF m 9 #[.val (.ref a1), .val (.ref a2), .val (.ref a4), .unset] [(.ref a7)])) rfl (by rw [hml]; rfl) (Steps.refl _) (argsL := []) (rest := []) (lenOf pd_12 rfl) rfl (by show 2 * 0 + _ ≤ _; exact Nat.le_of_eq rfl) (hb hby d7_9) (fun _ _ => ⟨rfl, e9, (by decide : 0 + 0 ≤ _), (by decide : 0 + 0 ≤ _)⟩)
  dsimp only [Pt.U, Pt.locs, Pt.cells, Pt.slots] at X13 l13 y13 z13 st13 hQ13
  subst l13 y13 z13
  obtain ⟨rfl, Nq13, e13⟩ := hQ13
  have N13 := Fr.app N9 Nq13
  obtain ⟨T17, X17, e17, st17⟩ := getF X13 hx hZ hown (host := "") (Or.inl (hw _ (List.mem_of_getElem? (i := 65) rfl))) Via.refl e13 F_16 (g := (mkF m 27 #[.val (.ref a1), .val (.ref a2), .val (.ref a4), .unset] [(.ref a1), (.int (1 : Int32))])) rfl rfl (hb hby d7_27)
  obtain ⟨T20, X20, e20, st20⟩ := getS2 X17 hx hZ hown (host := "") (Or.inl (hw _ (List.mem_of_getElem? (i := 89) rfl))) Via.refl e17 (S_19.ext O0.2) (g := (mkF m 33 #[.val (.ref a1), .val (.ref a2), .val (.ref a4), .val (.int ((1 : Int32) + p15))] [(.ref a4)])) rfl (hb hby d7_33)
  obtain ⟨T22, X22, e22, st22⟩ := getS2 X20 hx hZ hown (host := "") (Or.inl (hw _ (List.mem_of_getElem? (i := 91) rfl))) Via.refl e20 (S_21.ext O0.2) (g := (mkF m 40 #[.val (.ref a1), .val (.ref a2), .val (.ref a4), .val (.int ((1 : Int32) + p15))] [(.ref a4)])) rfl (hb hby d7_40)
  obtain ⟨cq25, kq25, q25a, q25b, q25c⟩ := isOf hZ e22 E_3
  obtain ⟨_, _, ⟨T25, L25, k25, n25⟩, -, X25, ⟨Lc25, hQ25, l25, y25, z25⟩, st25⟩ := X22.virtualBack hx (y := (⟨"com/example/runqueue/runqueue/Outcome", "attempts", "()I"⟩ : MethodName)) (z := (⟨"com/example/runqueue/runqueue/Outcome", "attempts", "()I"⟩ : MethodName)) hown (mvT hZ (hw _ (List.mem_of_getElem? (i := 94) rfl))) (mvT hZ (hw _ (List.mem_of_getElem? (i := 95) rfl))) (notFace_of_selects (args := #[]) (mvT hZ (hw _ (List.mem_of_getElem? (i := 97) rfl)))) (mvT hZ (hw _ (List.mem_of_getElem? (i := 97) rfl))) (mvT hZ (hw _ (List.mem_of_getElem? (i := 96) rfl))) (by decide) (backOf (W := 0) (rm11 l Z a0 hw [] a2 p23 h0 n0 O0 F_24) hZ (hw _ (List.mem_of_getElem? (i := 98) rfl)) (hw _ (List.mem_of_getElem? (i := 45) rfl)) (by decide) (by decide)) q25a q25c (g := (mkF m 47 #[.val (.ref a1), .val (.ref a2), .val (.ref a4), .val (.int ((1 : Int32) + p15))] [(.ref a2)])) rfl (by rw [hml]; rfl) (Steps.refl _) (argsL := []) (rest := []) (lenOf pd_12 rfl) rfl (by show 2 * 0 + _ ≤ _; exact Nat.le_of_eq rfl) (hb hby d7_47) (fun _ _ => ⟨rfl, e22, (by decide : 0 + 0 ≤ _), (by decide : 0 + 0 ≤ _)⟩)
  dsimp only [Pt.U, Pt.locs, Pt.cells, Pt.slots] at X25 l25 y25 z25 st25 hQ25
  subst l25 y25 z25
  obtain ⟨rfl, Nq25, e25⟩ := hQ25
  have N25 := Fr.app N13 Nq25
  obtain ⟨fs, hr, hrun, hended, hW, hsame⟩ := X25.leave (v := some (.int (0 : Int32))) (fun h => by rw [Bd.returns] at h; cases h)
  refine ⟨_, _, pre0 _ ?_, hrun, hended, _, _, rfl, ?_, ⟨_, rfl⟩, hW, hsame.mono (by decide) (by decide)⟩
  · show Steps p.tables e below (s₁.setTop (mkF m 0 #[.val (.ref a1), .val (.ref a2), .unset, .unset] [])) _
    refine XS.aloadN X0.here hx rfl (hb hby d7_0) rfl rfl ?_
    show Steps p.tables e below (s₁.setTop (mkF m 1 #[.val (.ref a1), .val (.ref a2), .unset, .unset] [(.ref a2)])) _
    refine st6.trans ?_
    show Steps p.tables e below (T6.setTop (mkF m 4 #[.val (.ref a1), .val (.ref a2), .unset, .unset] [(.ref a4)])) _
    refine XS.astoreN X6.here hx rfl (hb hby d7_4) rfl rfl (l' := #[.val (.ref a1), .val (.ref a2), .val (.ref a4), .unset]) rfl ?_
    refine XS.aloadN X6.here hx rfl (hb hby d7_5) rfl rfl ?_
    show Steps p.tables e below (T6.setTop (mkF m 6 #[.val (.ref a1), .val (.ref a2), .val (.ref a4), .unset] [(.ref a2)])) _
    refine st9.trans ?_
    show Steps p.tables e below (T9.setTop (mkF m 9 #[.val (.ref a1), .val (.ref a2), .val (.ref a4), .unset] [(.ref a7)])) _
    refine st13.trans ?_
    show Steps p.tables e below (T13.setTop (mkF m 12 #[.val (.ref a1), .val (.ref a2), .val (.ref a4), .unset] [(.int p11)])) _
    refine XS.ifYes X13.here hx rfl (pc0 := 12) (pc' := 25) rfl (hb hby d7_12) rfl ((if0 _ _).trans (flt (hc14 : ¬ ((0 : Int32) < p11))).2.2.2) (by decide) (by decide) ?_
    refine XS.iconst X13.here hx rfl (hb hby d7_25) ?_
    refine XS.aloadN X13.here hx rfl (hb hby d7_26) rfl rfl ?_
    show Steps p.tables e below (T13.setTop (mkF m 27 #[.val (.ref a1), .val (.ref a2), .val (.ref a4), .unset] [(.ref a1), (.int (1 : Int32))])) _
    refine st17 _ ?_
    show Steps p.tables e below (T17.setTop (mkF m 30 #[.val (.ref a1), .val (.ref a2), .val (.ref a4), .unset] [(.int p15), (.int (1 : Int32))])) _
    refine XS.iadd X17.here hx rfl (hb hby d7_30) rfl ?_
    refine XS.istoreN X17.here hx rfl (hb hby d7_31) rfl (l' := #[.val (.ref a1), .val (.ref a2), .val (.ref a4), .val (.int ((1 : Int32) + p15))]) rfl ?_
    refine XS.aloadN X17.here hx rfl (hb hby d7_32) rfl rfl ?_
    show Steps p.tables e below (T17.setTop (mkF m 33 #[.val (.ref a1), .val (.ref a2), .val (.ref a4), .val (.int ((1 : Int32) + p15))] [(.ref a4)])) _
    refine st20 _ ?_
    show Steps p.tables e below (T20.setTop (mkF m 36 #[.val (.ref a1), .val (.ref a2), .val (.ref a4), .val (.int ((1 : Int32) + p15))] [(.ref a18), (.ref a4)])) _
    refine Jvm.RoadKit.acmp (g := (mkF m 36 #[.val (.ref a1), .val (.ref a2), .val (.ref a4), .val (.int ((1 : Int32) + p15))] [(.ref a18), (.ref a4)])) X20 hx rfl rfl rfl (pc0 := 36) (pc' := 39) (same := false) rfl (hb hby d7_36) rfl (decide_eq_false fun q => ne_a4_a18 (Value.ref.inj q)) (by decide) (by decide) ?_
    refine XS.aloadN X20.here hx rfl (hb hby d7_39) rfl rfl ?_
    show Steps p.tables e below (T20.setTop (mkF m 40 #[.val (.ref a1), .val (.ref a2), .val (.ref a4), .val (.int ((1 : Int32) + p15))] [(.ref a4)])) _
    refine st22 _ ?_
    show Steps p.tables e below (T22.setTop (mkF m 43 #[.val (.ref a1), .val (.ref a2), .val (.ref a4), .val (.int ((1 : Int32) + p15))] [(.ref a4), (.ref a4)])) _
    refine Jvm.RoadKit.acmp (g := (mkF m 43 #[.val (.ref a1), .val (.ref a2), .val (.ref a4), .val (.int ((1 : Int32) + p15))] [(.ref a4), (.ref a4)])) X22 hx rfl rfl rfl (pc0 := 43) (pc' := 46) (same := true) rfl (hb hby d7_43) rfl (decide_eq_true rfl) (by decide) (by decide) ?_
    refine XS.aloadN X22.here hx rfl (hb hby d7_46) rfl rfl ?_
    show Steps p.tables e below (T22.setTop (mkF m 47 #[.val (.ref a1), .val (.ref a2), .val (.ref a4), .val (.int ((1 : Int32) + p15))] [(.ref a2)])) _
    refine st25.trans ?_
    show Steps p.tables e below (T25.setTop (mkF m 50 #[.val (.ref a1), .val (.ref a2), .val (.ref a4), .val (.int ((1 : Int32) + p15))] [(.int p23)])) _
    refine XS.iloadN X25.here hx rfl (hb hby d7_50) rfl ?_
    show Steps p.tables e below (T25.setTop (mkF m 51 #[.val (.ref a1), .val (.ref a2), .val (.ref a4), .val (.int ((1 : Int32) + p15))] [(.int ((1 : Int32) + p15)), (.int p23)])) _
    refine XS.icmpYes X25.here hx rfl (pc0 := 51) (pc' := 58) rfl (hb hby d7_51) rfl (flt (hc26 : ¬ (p23 < ((1 : Int32) + p15)))).2.1 (by decide) (by decide) ?_
    refine XS.iconst X25.here hx rfl (hb hby d7_58) ?_
    show Steps p.tables e below (T25.setTop (mkF m 59 #[.val (.ref a1), .val (.ref a2), .val (.ref a4), .val (.int ((1 : Int32) + p15))] [(.int (0 : Int32))])) _
    exact retN X25 hx (t := .boolean) Bd.returns (by simp) (hb hby d7_59) hr
  · show Qrm7_9 Z a1 a2 a4 a7 p11 p15 a18 p23 h0 n0 _ T25.heap _
    rw [e25]
    exact ⟨rfl, N25, rfl⟩
theorem ef_0_IJIII (m : MethodId) (x0 : Int32) (x1 : Int64) (x2 : Int32) (x3 : Int32) (x4 : Int32) : entryFrame m #[(.int x0), (.long x1), (.int x2), (.int x3), (.int x4)] maxLocals = mkF m 0 #[.val (.int x0), .val (.long x1), .second, .val (.int x2), .val (.int x3), .val (.int x4), .unset, .unset, .unset, .unset, .unset, .unset, .unset, .unset, .unset, .unset] [] := by first | (simp [entryFrame, mkF, argsToLocals, Value.category, maxLocals]; done) | rfl
theorem pn_14 : plainName "com/example/runqueue/runqueue/RetriesAgainPinLaw" = true := by first | (simp [plainName, overriddenIn]; done) | decide +kernel
def Qrm0 (Z : State) (p1 : Int32) (q2 : Int64) (p3 : Int32) (p4 : Int32) (p5 : Int32) (w6 : Addr) (w7 : Addr) (w8 : Addr) (w9 : Addr) (h0 : Heap) (n0 : Nat) (v : Option Value) (h : Heap) (L : List Loc) : Prop := v = some (.int (1 : Int32)) ∧ Fr n0 L
set_option maxRecDepth 65536 in
set_option maxHeartbeats 40000000 in
theorem rm0 (l : Launch) (Z : State) (a0 : Array Value) (hw : ∀ d ∈ tables_1, d.before a0 Z = true) (ws : List Jvm.Cond) (p1 : Int32) (q2 : Int64) (p3 : Int32) (p4 : Int32) (p5 : Int32) (w6 : Addr) (w7 : Addr) (w8 : Addr) (w9 : Addr) (h0 : Heap) (n0 : Nat) (O0 : Old Z n0 h0) (S_DONE : Sta Z Z.heap "com/example/runqueue/runqueue/Outcome$State" "DONE" "Lcom/example/runqueue/runqueue/Outcome$State;" (.ref w6)) (E_DONE : Exa Z Z.heap w6 "com/example/runqueue/runqueue/Outcome$State") (F_DONE : Fld Z Z.heap w6 "java/lang/Enum" "ordinal" "I" (.int (0 : Int32))) (S_FAILED : Sta Z Z.heap "com/example/runqueue/runqueue/Outcome$State" "FAILED" "Lcom/example/runqueue/runqueue/Outcome$State;" (.ref w7)) (E_FAILED : Exa Z Z.heap w7 "com/example/runqueue/runqueue/Outcome$State") (F_FAILED : Fld Z Z.heap w7 "java/lang/Enum" "ordinal" "I" (.int (1 : Int32))) (S_TIMEOUT : Sta Z Z.heap "com/example/runqueue/runqueue/Outcome$State" "TIMEOUT" "Lcom/example/runqueue/runqueue/Outcome$State;" (.ref w8)) (E_TIMEOUT : Exa Z Z.heap w8 "com/example/runqueue/runqueue/Outcome$State") (F_TIMEOUT : Fld Z Z.heap w8 "java/lang/Enum" "ordinal" "I" (.int (2 : Int32))) (S_SKIPPED : Sta Z Z.heap "com/example/runqueue/runqueue/Outcome$State" "SKIPPED" "Lcom/example/runqueue/runqueue/Outcome$State;" (.ref w9)) (E_SKIPPED : Exa Z Z.heap w9 "com/example/runqueue/runqueue/Outcome$State") (F_SKIPPED : Fld Z Z.heap w9 "java/lang/Enum" "ordinal" "I" (.int (3 : Int32))) :
    MetFree l x (head1 (Jvm.Cond.code x code maxLocals ret :: ws) room_1) (fun a U => a = #[(.int p1), (.long q2), (.int p3), (.int p4), (.int p5)] ∧ Z.Warmed39 U.vm ∧ U.heap = h0) (fun _ _ _ _ _ => True) (fun _ U o U' => ∃ v L, o = .returned v ∧ Qrm0 Z p1 q2 p3 p4 p5 w6 w7 w8 w9 h0 n0 v U'.heap L ∧ ReturnedEndW U o U' L room_1.cells room_1.slots) := by
  refine MetFree.of_bodySF (plainFor_of_name pn_14) hisR ?_
  intro p e s m args below meth c s₁ Bd hml0 hP hK
  obtain ⟨rfl, hZ, hh⟩ := hP
  have hx := Bd.exec
  have hby := Bd.bytes
  have hml : c.maxLocals = 16 := hml0
  have hown : s.vm.findClass "com/example/runqueue/runqueue/RetriesAgainPinLaw" = some m.cls := findClass_of_methodNamed Bd.named
  have hnm := (name_of_methodNamed Bd.named Bd.method).1
  have X0 : Stand p l e room_1 s m #[(.int p1), (.long q2), (.int p3), (.int p4), (.int p5)] below meth c s₁ [] 0 0 := Stand.of_body Bd
  have e0 : s₁.heap = h0 := by rw [← hh, Bd.state]; rfl
  have N0 := Fr.nil n0
  have pre0 : ∀ t, Steps p.tables e below (s₁.setTop (mkF m 0 #[.val (.int p1), .val (.long q2), .second, .val (.int p3), .val (.int p4), .val (.int p5), .unset, .unset, .unset, .unset, .unset, .unset, .unset, .unset, .unset, .unset] [])) t → Steps p.tables e below (s₁.setTop (entryFrame m #[(.int p1), (.long q2), (.int p3), (.int p4), (.int p5)] maxLocals)) t := fun t k => castTop (ef_0_IJIII m p1 q2 p3 p4 p5) k
  have hS0 : s.Since s.vm 0 := (State.WarmedH.refl s).since 0
  obtain ⟨cc, h_cc⟩ : ∃ z : Int32, z = ((p1 &&& (2147483647 : Int32)) % (101 : Int32)) := ⟨_, rfl⟩
  have pre10 : ∀ t, Steps p.tables e below (s₁.setTop (mkF m 15 #[.val (.int p1), .val (.long q2), .second, .val (.int p3), .val (.int p4), .val (.int p5), .val (.int cc), .val (.int (p5 &&& (3 : Int32))), .unset, .unset, .unset, .unset, .unset, .unset, .unset, .unset] [])) t → Steps p.tables e below (s₁.setTop (entryFrame m #[(.int p1), (.long q2), (.int p3), (.int p4), (.int p5)] maxLocals)) t := fun t kt => pre0 t (by
    show Steps p.tables e below (s₁.setTop (mkF m 0 #[.val (.int p1), .val (.long q2), .second, .val (.int p3), .val (.int p4), .val (.int p5), .unset, .unset, .unset, .unset, .unset, .unset, .unset, .unset, .unset, .unset] [])) _
    refine XS.iloadN X0.here hx rfl (hb hby at_0) rfl ?_
    refine X0.ldcInt hx hown (mvT hZ (hw _ (List.mem_of_getElem? (i := 0) rfl))) (g := (mkF m 1 #[.val (.int p1), .val (.long q2), .second, .val (.int p3), .val (.int p4), .val (.int p5), .unset, .unset, .unset, .unset, .unset, .unset, .unset, .unset, .unset, .unset] [(.int p1)])) rfl (hb hby at_1) _ ?_
    refine XS.iand X0.here hx rfl (hb hby at_3) rfl ?_
    show Steps p.tables e below (s₁.setTop (mkF m 4 #[.val (.int p1), .val (.long q2), .second, .val (.int p3), .val (.int p4), .val (.int p5), .unset, .unset, .unset, .unset, .unset, .unset, .unset, .unset, .unset, .unset] [(.int (p1 &&& (2147483647 : Int32)))])) _
    refine XS.bipush X0.here hx rfl (hb hby at_4) ?_
    refine Jvm.RoadKit.iremM X0 hx rfl (hb hby at_6) rfl (by decide) ?_
    refine XS.istore X0.here hx rfl (hb hby at_7) rfl (l' := #[.val (.int p1), .val (.long q2), .second, .val (.int p3), .val (.int p4), .val (.int p5), .val (.int ((p1 &&& (2147483647 : Int32)) % (101 : Int32))), .unset, .unset, .unset, .unset, .unset, .unset, .unset, .unset, .unset]) rfl ?_
    show Steps p.tables e below (s₁.setTop (mkF m 9 #[.val (.int p1), .val (.long q2), .second, .val (.int p3), .val (.int p4), .val (.int p5), .val (.int ((p1 &&& (2147483647 : Int32)) % (101 : Int32))), .unset, .unset, .unset, .unset, .unset, .unset, .unset, .unset, .unset] [])) _
    rw [← h_cc]
    show Steps p.tables e below (s₁.setTop (mkF m 9 #[.val (.int p1), .val (.long q2), .second, .val (.int p3), .val (.int p4), .val (.int p5), .val (.int cc), .unset, .unset, .unset, .unset, .unset, .unset, .unset, .unset, .unset] [])) _
    refine XS.iload X0.here hx rfl (hb hby at_9) rfl ?_
    refine XS.iconst X0.here hx rfl (hb hby at_11) ?_
    refine XS.iand X0.here hx rfl (hb hby at_12) rfl ?_
    show Steps p.tables e below (s₁.setTop (mkF m 13 #[.val (.int p1), .val (.long q2), .second, .val (.int p3), .val (.int p4), .val (.int p5), .val (.int cc), .unset, .unset, .unset, .unset, .unset, .unset, .unset, .unset, .unset] [(.int (p5 &&& (3 : Int32)))])) _
    refine XS.istore X0.here hx rfl (hb hby at_13) rfl (l' := #[.val (.int p1), .val (.long q2), .second, .val (.int p3), .val (.int p4), .val (.int p5), .val (.int cc), .val (.int (p5 &&& (3 : Int32))), .unset, .unset, .unset, .unset, .unset, .unset, .unset, .unset]) rfl ?_
    exact kt)
  rcases own_and3 p5 with hk | hk | hk | hk
  · obtain ⟨T11, X11, e11, st11⟩ := getS2 X0 hx hZ hown (host := "") (Or.inl (hw _ (List.mem_of_getElem? (i := 100) rfl))) Via.refl e0 (S_DONE.ext O0.2) (g := (mkF m 20 #[.val (.int p1), .val (.long q2), .second, .val (.int p3), .val (.int p4), .val (.int p5), .val (.int cc), .val (.int (0 : Int32)), .unset, .unset, .unset, .unset, .unset, .unset, .unset, .unset] [])) rfl (hb hby at_20)
    obtain ⟨T12, h12, X12, e12, E12, A12, D12, U12, st12⟩ := newO X11 hx hZ hown (hw _ (List.mem_of_getElem? (i := 4) rfl)) (hw _ (List.mem_of_getElem? (i := 5) rfl)) (hw _ (List.mem_of_getElem? (i := 6) rfl)) e11 (g := (mkF m 61 #[.val (.int p1), .val (.long q2), .second, .val (.int p3), .val (.int p4), .val (.int p5), .val (.int cc), .val (.int (0 : Int32)), .val (.ref w6), .unset, .unset, .unset, .unset, .unset, .unset, .unset] [])) rfl (hb hby at_61) (by decide) (by decide)
    obtain ⟨b12, g12⟩ : ∃ z, z = h0.size := ⟨_, rfl⟩
    rw [← g12] at A12 D12 U12 st12
    have g_b12 : n0 ≤ b12 := own_born O0 (own_eqle g12)
    have sz_b12 : h0.size ≤ b12 := Nat.le_trans (Keep.refl h0 []).1 (own_eqle g12)
    have K12 : Keep h0 h12 [] := (Keep.refl h0 []).ext E12
    have O12 : Old Z n0 h12 := O0.ext E12
    have F12_id : Fld Z h12 b12 "com/example/runqueue/runqueue/Job" "id" "Ljava/lang/String;" .null := D12 (Or.inr (hw _ (List.mem_of_getElem? (i := 34) rfl))) (ty := (.object "java/lang/String")) (by decide)
    have F12_name : Fld Z h12 b12 "com/example/runqueue/runqueue/Job" "name" "Ljava/lang/String;" .null := D12 (Or.inr (hw _ (List.mem_of_getElem? (i := 36) rfl))) (ty := (.object "java/lang/String")) (by decide)
    have F12_command : Fld Z h12 b12 "com/example/runqueue/runqueue/Job" "command" "Ljava/lang/String;" .null := D12 (Or.inr (hw _ (List.mem_of_getElem? (i := 38) rfl))) (ty := (.object "java/lang/String")) (by decide)
    have F12_timeoutMillis : Fld Z h12 b12 "com/example/runqueue/runqueue/Job" "timeoutMillis" "J" (.long (0 : Int64)) := D12 (Or.inr (hw _ (List.mem_of_getElem? (i := 40) rfl))) (ty := .long) (by decide)
    have F12_maxAttempts : Fld Z h12 b12 "com/example/runqueue/runqueue/Job" "maxAttempts" "I" (.int (0 : Int32)) := D12 (Or.inr (hw _ (List.mem_of_getElem? (i := 42) rfl))) (ty := .int) (by decide)
    obtain ⟨b13, T13, h13, k13, X13, e13, E13, hS13, hk13, hZ13, hown13, st13⟩ := ldcS (s := s) (vm0 := s.vm) X12 hx hZ hown (hw _ (List.mem_of_getElem? (i := 7) rfl)) (own_wS hw) e12 hS0 (Nat.le_trans (Nat.zero_le _) E12.1) (g := (mkF m 65 #[.val (.int p1), .val (.long q2), .second, .val (.int p3), .val (.int p4), .val (.int p5), .val (.int cc), .val (.int (0 : Int32)), .val (.ref w6), .unset, .unset, .unset, .unset, .unset, .unset, .unset] [(.ref b12), (.ref b12)])) rfl (hb hby at_65) (n := 4) (by decide) (by decide) (by decide) (by decide)
    have K13 : Keep h0 h13 [] := K12.ext E13
    have O13 : Old Z n0 h13 := O12.ext E13
    obtain ⟨b14, T14, h14, k14, X14, e14, E14, hS14, hk14, hZ14, hown14, st14⟩ := ldcS (s := s) (vm0 := T13.vm) X13 hx hZ13 hown13 (hw _ (List.mem_of_getElem? (i := 7) rfl)) (own_wS hw) e13 hS13 hk13 (g := (mkF m 67 #[.val (.int p1), .val (.long q2), .second, .val (.int p3), .val (.int p4), .val (.int p5), .val (.int cc), .val (.int (0 : Int32)), .val (.ref w6), .unset, .unset, .unset, .unset, .unset, .unset, .unset] [(.ref b13), (.ref b12), (.ref b12)])) rfl (hb hby at_67) (n := 4) (by decide) (by decide) (by decide) (by decide)
    have K14 : Keep h0 h14 [] := K13.ext E14
    have O14 : Old Z n0 h14 := O13.ext E14
    obtain ⟨b15, T15, h15, k15, X15, e15, E15, hS15, hk15, hZ15, hown15, st15⟩ := ldcS (s := s) (vm0 := T14.vm) X14 hx hZ14 hown14 (hw _ (List.mem_of_getElem? (i := 7) rfl)) (own_wS hw) e14 hS14 hk14 (g := (mkF m 69 #[.val (.int p1), .val (.long q2), .second, .val (.int p3), .val (.int p4), .val (.int p5), .val (.int cc), .val (.int (0 : Int32)), .val (.ref w6), .unset, .unset, .unset, .unset, .unset, .unset, .unset] [(.ref b14), (.ref b13), (.ref b12), (.ref b12)])) rfl (hb hby at_69) (n := 4) (by decide) (by decide) (by decide) (by decide)
    have K15 : Keep h0 h15 [] := K14.ext E15
    have O15 : Old Z n0 h15 := O14.ext E15
    have f16 : Exa Z h15 b12 "com/example/runqueue/runqueue/Job" := (((A12.ext E13).ext E14).ext E15)
    have f17 : Fld Z h15 b12 "com/example/runqueue/runqueue/Job" "id" "Ljava/lang/String;" .null := (((F12_id.ext E13).ext E14).ext E15)
    have f18 : Fld Z h15 b12 "com/example/runqueue/runqueue/Job" "name" "Ljava/lang/String;" .null := (((F12_name.ext E13).ext E14).ext E15)
    have f19 : Fld Z h15 b12 "com/example/runqueue/runqueue/Job" "command" "Ljava/lang/String;" .null := (((F12_command.ext E13).ext E14).ext E15)
    have f20 : Fld Z h15 b12 "com/example/runqueue/runqueue/Job" "timeoutMillis" "J" (.long (0 : Int64)) := (((F12_timeoutMillis.ext E13).ext E14).ext E15)
    have f21 : Fld Z h15 b12 "com/example/runqueue/runqueue/Job" "maxAttempts" "I" (.int (0 : Int32)) := (((F12_maxAttempts.ext E13).ext E14).ext E15)
    obtain ⟨_, _, ⟨T22, L22, k22, n22⟩, -, X22, h222, hg22, ⟨Lc22, hQ22, l22, y22, z22⟩, st22⟩ := X15.specialBackS hx (y := (⟨"com/example/runqueue/runqueue/Job", "<init>", "(Ljava/lang/String;Ljava/lang/String;Ljava/lang/String;JI)V"⟩ : MethodName)) rfl hown15 (mvT hZ15 (hw _ (List.mem_of_getElem? (i := 15) rfl))) (mvT hZ15 (hw _ (List.mem_of_getElem? (i := 16) rfl))) (mvT hZ15 (hw _ (List.mem_of_getElem? (i := 17) rfl))) (by decide) (backOfS (W := 1) (rm1 l Z a0 hw [] b12 b13 b14 b15 p3 h15 n0 O15 f16 f17 g_b12 f18 f19 f20 f21) hZ15 (hw _ (List.mem_of_getElem? (i := 17) rfl)) (hw _ (List.mem_of_getElem? (i := 6) rfl)) (by decide) (by decide)) (g := (mkF m 73 #[.val (.int p1), .val (.long q2), .second, .val (.int p3), .val (.int p4), .val (.int p5), .val (.int cc), .val (.int (0 : Int32)), .val (.ref w6), .unset, .unset, .unset, .unset, .unset, .unset, .unset] [(.int p3), (.long (0 : Int64)), (.ref b15), (.ref b14), (.ref b13), (.ref b12), (.ref b12)])) rfl (by rw [hml]; rfl) (Steps.refl _) (a := b12) (argsL := [(.ref b13), (.ref b14), (.ref b15), (.long (0 : Int64)), (.int p3)]) (rest := [(.ref b12)]) (lenOf pd_5 rfl) rfl (by show 2 * 0 + _ ≤ _; exact Nat.le_of_eq rfl) (hb hby at_73) (fun _ _ => ⟨rfl, e15, (by decide : 7 + 6 ≤ _), (by decide : 29 + 64 ≤ _)⟩)
    dsimp only [Pt.U, Pt.locs, Pt.cells, Pt.slots] at X22 l22 y22 z22 st22 hQ22 h222 hg22
    subst l22 y22 z22
    obtain ⟨X22, hS22, hZ22, hown22⟩ := rebS (s := s) (vm0 := T15.vm) hS15 (show _ ≤ T15.heap.size from (by rw [e15]; exact hk15)) X22 h222 hg22 hZ15 hown15
    obtain ⟨rfl, Nq22, K22, P22_0, P22_1, P22_2, P22_3, P22_4, P22_5⟩ := hQ22
    have N22 := Fr.app N0 Nq22
    have KK22 : Keep h0 T22.heap [] := Keep.trans (h := h15) K15 K22 (allS (Or.inr sz_b12) all0)
    have O22 : Old Z n0 T22.heap := O15.keep K22 (allS g_b12 all0)
    obtain ⟨T23, h23, X23, e23, E23, A23, D23, U23, st23⟩ := newO X22 hx hZ22 hown22 (hw _ (List.mem_of_getElem? (i := 43) rfl)) (hw _ (List.mem_of_getElem? (i := 44) rfl)) (hw _ (List.mem_of_getElem? (i := 45) rfl)) rfl (g := (mkF m 78 #[.val (.int p1), .val (.long q2), .second, .val (.int p3), .val (.int p4), .val (.int p5), .val (.int cc), .val (.int (0 : Int32)), .val (.ref w6), .val (.ref b12), .unset, .unset, .unset, .unset, .unset, .unset] [])) rfl (hb hby at_78) (by decide) (by decide)
    obtain ⟨b23, g23⟩ : ∃ z, z = T22.heap.size := ⟨_, rfl⟩
    rw [← g23] at A23 D23 U23 st23
    have ne24 : b12 ≠ b23 := (own_ltn P22_0.lt (own_eqle g23))
    have g_b23 : n0 ≤ b23 := own_born O22 (own_eqle g23)
    have sz_b23 : h0.size ≤ b23 := Nat.le_trans KK22.1 (own_eqle g23)
    have K23 : Keep h0 h23 [] := KK22.ext E23
    have O23 : Old Z n0 h23 := O22.ext E23
    have F23_job : Fld Z h23 b23 "com/example/runqueue/runqueue/Outcome" "job" "Lcom/example/runqueue/runqueue/Job;" .null := D23 (Or.inr (hw _ (List.mem_of_getElem? (i := 51) rfl))) (ty := (.object "com/example/runqueue/runqueue/Job")) (by decide)
    have F23_state : Fld Z h23 b23 "com/example/runqueue/runqueue/Outcome" "state" "Lcom/example/runqueue/runqueue/Outcome$State;" .null := D23 (Or.inr (hw _ (List.mem_of_getElem? (i := 53) rfl))) (ty := (.object "com/example/runqueue/runqueue/Outcome$State")) (by decide)
    have F23_attempts : Fld Z h23 b23 "com/example/runqueue/runqueue/Outcome" "attempts" "I" (.int (0 : Int32)) := D23 (Or.inr (hw _ (List.mem_of_getElem? (i := 55) rfl))) (ty := .int) (by decide)
    have F23_last : Fld Z h23 b23 "com/example/runqueue/runqueue/Outcome" "last" "Lcom/example/runqueue/runqueue/Outcome$Run;" .null := D23 (Or.inr (hw _ (List.mem_of_getElem? (i := 57) rfl))) (ty := (.object "com/example/runqueue/runqueue/Outcome$Run")) (by decide)
    obtain ⟨_, _, ⟨T25, L25, k25, n25⟩, -, X25, ⟨Lc25, hQ25, l25, y25, z25⟩, st25⟩ := X23.specialBack hx (y := (⟨"com/example/runqueue/runqueue/Outcome", "<init>", "(Lcom/example/runqueue/runqueue/Job;Lcom/example/runqueue/runqueue/Outcome$State;ILcom/example/runqueue/runqueue/Outcome$Run;)V"⟩ : MethodName)) rfl hown22 (mvT hZ22 (hw _ (List.mem_of_getElem? (i := 46) rfl))) (mvT hZ22 (hw _ (List.mem_of_getElem? (i := 47) rfl))) (mvT hZ22 (hw _ (List.mem_of_getElem? (i := 48) rfl))) (by decide) (backOf (W := 1) (rm5 l Z a0 hw [] b23 b12 w6 p4 h23 n0 O23 A23 F23_job g_b23 F23_state F23_attempts F23_last) hZ22 (hw _ (List.mem_of_getElem? (i := 48) rfl)) (hw _ (List.mem_of_getElem? (i := 45) rfl)) (by decide) (by decide)) (g := (mkF m 89 #[.val (.int p1), .val (.long q2), .second, .val (.int p3), .val (.int p4), .val (.int p5), .val (.int cc), .val (.int (0 : Int32)), .val (.ref w6), .val (.ref b12), .unset, .unset, .unset, .unset, .unset, .unset] [.null, (.int p4), (.ref w6), (.ref b12), (.ref b23), (.ref b23)])) rfl (by rw [hml]; rfl) (Steps.refl _) (a := b23) (argsL := [(.ref b12), (.ref w6), (.int p4), .null]) (rest := [(.ref b23)]) (lenOf pd_7 rfl) rfl (by show 2 * 0 + _ ≤ _; exact Nat.le_of_eq rfl) (hb hby at_89) (fun _ _ => ⟨rfl, e23, (by decide : 14 + 0 ≤ _), (by decide : 97 + 0 ≤ _)⟩)
    dsimp only [Pt.U, Pt.locs, Pt.cells, Pt.slots] at X25 l25 y25 z25 st25 hQ25
    subst l25 y25 z25
    obtain ⟨rfl, Nq25, K25, P25_0, P25_1, P25_2, P25_3, P25_4⟩ := hQ25
    have N25 := Fr.app N22 Nq25
    have KK25 : Keep h0 T25.heap [] := Keep.trans (h := h23) K23 K25 (allS (Or.inr sz_b23) all0)
    have O25 : Old Z n0 T25.heap := O23.keep K25 (allS g_b23 all0)
    obtain ⟨T26, h26, X26, e26, E26, A26, D26, U26, st26⟩ := newO X25 hx hZ22 hown22 (hw _ (List.mem_of_getElem? (i := 58) rfl)) (hw _ (List.mem_of_getElem? (i := 59) rfl)) (hw _ (List.mem_of_getElem? (i := 60) rfl)) rfl (g := (mkF m 94 #[.val (.int p1), .val (.long q2), .second, .val (.int p3), .val (.int p4), .val (.int p5), .val (.int cc), .val (.int (0 : Int32)), .val (.ref w6), .val (.ref b12), .val (.ref b23), .unset, .unset, .unset, .unset, .unset] [])) rfl (hb hby at_94) (by decide) (by decide)
    obtain ⟨b26, g26⟩ : ∃ z, z = T25.heap.size := ⟨_, rfl⟩
    rw [← g26] at A26 D26 U26 st26
    have f27 : Exa Z T25.heap b12 "com/example/runqueue/runqueue/Job" := ((P22_0.ext E23).keep K25)
    have ne28 : b12 ≠ b26 := (own_ltn f27.lt (own_eqle g26))
    have ne29 : b23 ≠ b26 := (own_ltn P25_0.lt (own_eqle g26))
    have g_b26 : n0 ≤ b26 := own_born O25 (own_eqle g26)
    have sz_b26 : h0.size ≤ b26 := Nat.le_trans KK25.1 (own_eqle g26)
    have K26 : Keep h0 h26 [] := KK25.ext E26
    have O26 : Old Z n0 h26 := O25.ext E26
    have F26_count : Fld Z h26 b26 "com/example/runqueue/runqueue/Retries" "count" "I" (.int (0 : Int32)) := D26 (Or.inr (hw _ (List.mem_of_getElem? (i := 66) rfl))) (ty := .int) (by decide)
    have F26_backoffMillis : Fld Z h26 b26 "com/example/runqueue/runqueue/Retries" "backoffMillis" "J" (.long (0 : Int64)) := D26 (Or.inr (hw _ (List.mem_of_getElem? (i := 68) rfl))) (ty := .long) (by decide)
    obtain ⟨_, _, ⟨T30, L30, k30, n30⟩, -, X30, ⟨Lc30, hQ30, l30, y30, z30⟩, st30⟩ := X26.specialBack hx (y := (⟨"com/example/runqueue/runqueue/Retries", "<init>", "(IJ)V"⟩ : MethodName)) rfl hown22 (mvT hZ22 (hw _ (List.mem_of_getElem? (i := 61) rfl))) (mvT hZ22 (hw _ (List.mem_of_getElem? (i := 62) rfl))) (mvT hZ22 (hw _ (List.mem_of_getElem? (i := 63) rfl))) (by decide) (backOf (W := 1) (rm6 l Z a0 hw [] b26 cc q2 h26 n0 O26 A26 F26_count g_b26 F26_backoffMillis) hZ22 (hw _ (List.mem_of_getElem? (i := 63) rfl)) (hw _ (List.mem_of_getElem? (i := 60) rfl)) (by decide) (by decide)) (g := (mkF m 101 #[.val (.int p1), .val (.long q2), .second, .val (.int p3), .val (.int p4), .val (.int p5), .val (.int cc), .val (.int (0 : Int32)), .val (.ref w6), .val (.ref b12), .val (.ref b23), .unset, .unset, .unset, .unset, .unset] [(.long q2), (.int cc), (.ref b26), (.ref b26)])) rfl (by rw [hml]; rfl) (Steps.refl _) (a := b26) (argsL := [(.int cc), (.long q2)]) (rest := [(.ref b26)]) (lenOf pd_9 rfl) rfl (by show 2 * 0 + _ ≤ _; exact Nat.le_of_eq rfl) (hb hby at_101) (fun _ _ => ⟨rfl, e26, (by decide : 15 + 0 ≤ _), (by decide : 99 + 0 ≤ _)⟩)
    dsimp only [Pt.U, Pt.locs, Pt.cells, Pt.slots] at X30 l30 y30 z30 st30 hQ30
    subst l30 y30 z30
    obtain ⟨rfl, Nq30, K30, P30_0, P30_1, P30_2⟩ := hQ30
    have N30 := Fr.app N25 Nq30
    have KK30 : Keep h0 T30.heap [] := Keep.trans (h := h26) K26 K30 (allS (Or.inr sz_b26) all0)
    have O30 : Old Z n0 T30.heap := O26.keep K30 (allS g_b26 all0)
    have pre31 : ∀ t, Steps p.tables e below (T30.setTop (mkF m 106 #[.val (.int p1), .val (.long q2), .second, .val (.int p3), .val (.int p4), .val (.int p5), .val (.int cc), .val (.int (0 : Int32)), .val (.ref w6), .val (.ref b12), .val (.ref b23), .val (.ref b26), .unset, .unset, .unset, .unset] [])) t → Steps p.tables e below (s₁.setTop (entryFrame m #[(.int p1), (.long q2), (.int p3), (.int p4), (.int p5)] maxLocals)) t := fun t kt => pre10 t (by
      show Steps p.tables e below (s₁.setTop (mkF m 15 #[.val (.int p1), .val (.long q2), .second, .val (.int p3), .val (.int p4), .val (.int p5), .val (.int cc), .val (.int (p5 &&& (3 : Int32))), .unset, .unset, .unset, .unset, .unset, .unset, .unset, .unset] [])) _
      rw [hk]
      show Steps p.tables e below (s₁.setTop (mkF m 15 #[.val (.int p1), .val (.long q2), .second, .val (.int p3), .val (.int p4), .val (.int p5), .val (.int cc), .val (.int (0 : Int32)), .unset, .unset, .unset, .unset, .unset, .unset, .unset, .unset] [])) _
      refine XS.iload X0.here hx rfl (hb hby at_15) rfl ?_
      show Steps p.tables e below (s₁.setTop (mkF m 17 #[.val (.int p1), .val (.long q2), .second, .val (.int p3), .val (.int p4), .val (.int p5), .val (.int cc), .val (.int (0 : Int32)), .unset, .unset, .unset, .unset, .unset, .unset, .unset, .unset] [(.int (0 : Int32))])) _
      refine XS.ifNo X0.here hx rfl (hb hby at_17) rfl ((if0 _ _).trans (teq ((by decide) : (0 : Int32) = (0 : Int32))).2) ?_
      show Steps p.tables e below (s₁.setTop (mkF m 20 #[.val (.int p1), .val (.long q2), .second, .val (.int p3), .val (.int p4), .val (.int p5), .val (.int cc), .val (.int (0 : Int32)), .unset, .unset, .unset, .unset, .unset, .unset, .unset, .unset] [])) _
      refine st11 _ ?_
      show Steps p.tables e below (T11.setTop (mkF m 23 #[.val (.int p1), .val (.long q2), .second, .val (.int p3), .val (.int p4), .val (.int p5), .val (.int cc), .val (.int (0 : Int32)), .unset, .unset, .unset, .unset, .unset, .unset, .unset, .unset] [(.ref w6)])) _
      refine XS.astore X11.here hx rfl (hb hby at_23) rfl rfl (l' := #[.val (.int p1), .val (.long q2), .second, .val (.int p3), .val (.int p4), .val (.int p5), .val (.int cc), .val (.int (0 : Int32)), .val (.ref w6), .unset, .unset, .unset, .unset, .unset, .unset, .unset]) rfl ?_
      refine XS.goto X11.here hx rfl (pc0 := 25) (pc' := 61) rfl (hb hby at_25) (by decide) (by decide) ?_
      show Steps p.tables e below (T11.setTop (mkF m 61 #[.val (.int p1), .val (.long q2), .second, .val (.int p3), .val (.int p4), .val (.int p5), .val (.int cc), .val (.int (0 : Int32)), .val (.ref w6), .unset, .unset, .unset, .unset, .unset, .unset, .unset] [])) _
      refine st12 _ ?_
      show Steps p.tables e below (T12.setTop (mkF m 64 #[.val (.int p1), .val (.long q2), .second, .val (.int p3), .val (.int p4), .val (.int p5), .val (.int cc), .val (.int (0 : Int32)), .val (.ref w6), .unset, .unset, .unset, .unset, .unset, .unset, .unset] [(.ref b12)])) _
      refine XS.dup X12.here hx rfl (hb hby at_64) rfl rfl ?_
      refine st13 _ ?_
      show Steps p.tables e below (T13.setTop (mkF m 67 #[.val (.int p1), .val (.long q2), .second, .val (.int p3), .val (.int p4), .val (.int p5), .val (.int cc), .val (.int (0 : Int32)), .val (.ref w6), .unset, .unset, .unset, .unset, .unset, .unset, .unset] [(.ref b13), (.ref b12), (.ref b12)])) _
      refine st14 _ ?_
      show Steps p.tables e below (T14.setTop (mkF m 69 #[.val (.int p1), .val (.long q2), .second, .val (.int p3), .val (.int p4), .val (.int p5), .val (.int cc), .val (.int (0 : Int32)), .val (.ref w6), .unset, .unset, .unset, .unset, .unset, .unset, .unset] [(.ref b14), (.ref b13), (.ref b12), (.ref b12)])) _
      refine st15 _ ?_
      show Steps p.tables e below (T15.setTop (mkF m 71 #[.val (.int p1), .val (.long q2), .second, .val (.int p3), .val (.int p4), .val (.int p5), .val (.int cc), .val (.int (0 : Int32)), .val (.ref w6), .unset, .unset, .unset, .unset, .unset, .unset, .unset] [(.ref b15), (.ref b14), (.ref b13), (.ref b12), (.ref b12)])) _
      refine XS.lconst X15.here hx rfl (hb hby at_71) ?_
      refine XS.iloadN X15.here hx rfl (hb hby at_72) rfl ?_
      show Steps p.tables e below (T15.setTop (mkF m 73 #[.val (.int p1), .val (.long q2), .second, .val (.int p3), .val (.int p4), .val (.int p5), .val (.int cc), .val (.int (0 : Int32)), .val (.ref w6), .unset, .unset, .unset, .unset, .unset, .unset, .unset] [(.int p3), (.long (0 : Int64)), (.ref b15), (.ref b14), (.ref b13), (.ref b12), (.ref b12)])) _
      refine st22.trans ?_
      show Steps p.tables e below (T22.setTop (mkF m 76 #[.val (.int p1), .val (.long q2), .second, .val (.int p3), .val (.int p4), .val (.int p5), .val (.int cc), .val (.int (0 : Int32)), .val (.ref w6), .unset, .unset, .unset, .unset, .unset, .unset, .unset] [(.ref b12)])) _
      refine XS.astore X22.here hx rfl (hb hby at_76) rfl rfl (l' := #[.val (.int p1), .val (.long q2), .second, .val (.int p3), .val (.int p4), .val (.int p5), .val (.int cc), .val (.int (0 : Int32)), .val (.ref w6), .val (.ref b12), .unset, .unset, .unset, .unset, .unset, .unset]) rfl ?_
      show Steps p.tables e below (T22.setTop (mkF m 78 #[.val (.int p1), .val (.long q2), .second, .val (.int p3), .val (.int p4), .val (.int p5), .val (.int cc), .val (.int (0 : Int32)), .val (.ref w6), .val (.ref b12), .unset, .unset, .unset, .unset, .unset, .unset] [])) _
      refine st23 _ ?_
      show Steps p.tables e below (T23.setTop (mkF m 81 #[.val (.int p1), .val (.long q2), .second, .val (.int p3), .val (.int p4), .val (.int p5), .val (.int cc), .val (.int (0 : Int32)), .val (.ref w6), .val (.ref b12), .unset, .unset, .unset, .unset, .unset, .unset] [(.ref b23)])) _
      refine XS.dup X23.here hx rfl (hb hby at_81) rfl rfl ?_
      refine XS.aload X23.here hx rfl (hb hby at_82) rfl rfl ?_
      refine XS.aload X23.here hx rfl (hb hby at_84) rfl rfl ?_
      show Steps p.tables e below (T23.setTop (mkF m 86 #[.val (.int p1), .val (.long q2), .second, .val (.int p3), .val (.int p4), .val (.int p5), .val (.int cc), .val (.int (0 : Int32)), .val (.ref w6), .val (.ref b12), .unset, .unset, .unset, .unset, .unset, .unset] [(.ref w6), (.ref b12), (.ref b23), (.ref b23)])) _
      refine XS.iload X23.here hx rfl (hb hby at_86) rfl ?_
      refine XS.aconstNull X23.here hx rfl (hb hby at_88) ?_
      show Steps p.tables e below (T23.setTop (mkF m 89 #[.val (.int p1), .val (.long q2), .second, .val (.int p3), .val (.int p4), .val (.int p5), .val (.int cc), .val (.int (0 : Int32)), .val (.ref w6), .val (.ref b12), .unset, .unset, .unset, .unset, .unset, .unset] [.null, (.int p4), (.ref w6), (.ref b12), (.ref b23), (.ref b23)])) _
      refine st25.trans ?_
      show Steps p.tables e below (T25.setTop (mkF m 92 #[.val (.int p1), .val (.long q2), .second, .val (.int p3), .val (.int p4), .val (.int p5), .val (.int cc), .val (.int (0 : Int32)), .val (.ref w6), .val (.ref b12), .unset, .unset, .unset, .unset, .unset, .unset] [(.ref b23)])) _
      refine XS.astore X25.here hx rfl (hb hby at_92) rfl rfl (l' := #[.val (.int p1), .val (.long q2), .second, .val (.int p3), .val (.int p4), .val (.int p5), .val (.int cc), .val (.int (0 : Int32)), .val (.ref w6), .val (.ref b12), .val (.ref b23), .unset, .unset, .unset, .unset, .unset]) rfl ?_
      show Steps p.tables e below (T25.setTop (mkF m 94 #[.val (.int p1), .val (.long q2), .second, .val (.int p3), .val (.int p4), .val (.int p5), .val (.int cc), .val (.int (0 : Int32)), .val (.ref w6), .val (.ref b12), .val (.ref b23), .unset, .unset, .unset, .unset, .unset] [])) _
      refine st26 _ ?_
      show Steps p.tables e below (T26.setTop (mkF m 97 #[.val (.int p1), .val (.long q2), .second, .val (.int p3), .val (.int p4), .val (.int p5), .val (.int cc), .val (.int (0 : Int32)), .val (.ref w6), .val (.ref b12), .val (.ref b23), .unset, .unset, .unset, .unset, .unset] [(.ref b26)])) _
      refine XS.dup X26.here hx rfl (hb hby at_97) rfl rfl ?_
      refine XS.iload X26.here hx rfl (hb hby at_98) rfl ?_
      refine XS.lloadN X26.here hx rfl (hb hby at_100) rfl ?_
      show Steps p.tables e below (T26.setTop (mkF m 101 #[.val (.int p1), .val (.long q2), .second, .val (.int p3), .val (.int p4), .val (.int p5), .val (.int cc), .val (.int (0 : Int32)), .val (.ref w6), .val (.ref b12), .val (.ref b23), .unset, .unset, .unset, .unset, .unset] [(.long q2), (.int cc), (.ref b26), (.ref b26)])) _
      refine st30.trans ?_
      show Steps p.tables e below (T30.setTop (mkF m 104 #[.val (.int p1), .val (.long q2), .second, .val (.int p3), .val (.int p4), .val (.int p5), .val (.int cc), .val (.int (0 : Int32)), .val (.ref w6), .val (.ref b12), .val (.ref b23), .unset, .unset, .unset, .unset, .unset] [(.ref b26)])) _
      refine XS.astore X30.here hx rfl (hb hby at_104) rfl rfl (l' := #[.val (.int p1), .val (.long q2), .second, .val (.int p3), .val (.int p4), .val (.int p5), .val (.int cc), .val (.int (0 : Int32)), .val (.ref w6), .val (.ref b12), .val (.ref b23), .val (.ref b26), .unset, .unset, .unset, .unset]) rfl ?_
      exact kt)
    by_cases hm : (0 : Int32) < p3
    · have f32 : Exa Z T30.heap b23 "com/example/runqueue/runqueue/Outcome" := ((P25_0.ext E26).keep K30)
      have f33 : Fld Z T30.heap b23 "com/example/runqueue/runqueue/Outcome" "state" "Lcom/example/runqueue/runqueue/Outcome$State;" (.ref w6) := ((P25_2.ext E26).keep K30 (ninS ne29 nin0))
      have f34 : Fld Z T30.heap b23 "com/example/runqueue/runqueue/Outcome" "job" "Lcom/example/runqueue/runqueue/Job;" (.ref b12) := ((P25_1.ext E26).keep K30 (ninS ne29 nin0))
      have f35 : Exa Z T30.heap b12 "com/example/runqueue/runqueue/Job" := ((f27.ext E26).keep K30)
      have f36 : Fld Z T30.heap b12 "com/example/runqueue/runqueue/Job" "maxAttempts" "I" (.int p3) := ((((P22_5.ext E23).keep K25 (ninS ne24 nin0)).ext E26).keep K30 (ninS ne28 nin0))
      obtain ⟨cq37, kq37, q37a, q37b, q37c⟩ := isOf hZ22 rfl P30_0
      obtain ⟨_, _, ⟨T37, L37, k37, n37⟩, -, X37, ⟨Lc37, hQ37, l37, y37, z37⟩, st37⟩ := X30.virtualBack hx (y := (⟨"com/example/runqueue/runqueue/Retries", "again", "(Lcom/example/runqueue/runqueue/Outcome;)Z"⟩ : MethodName)) (z := (⟨"com/example/runqueue/runqueue/Retries", "again", "(Lcom/example/runqueue/runqueue/Outcome;)Z"⟩ : MethodName)) hown22 (mvT hZ22 (hw _ (List.mem_of_getElem? (i := 69) rfl))) (mvT hZ22 (hw _ (List.mem_of_getElem? (i := 70) rfl))) (notFace_of_selects (args := #[]) (mvT hZ22 (hw _ (List.mem_of_getElem? (i := 72) rfl)))) (mvT hZ22 (hw _ (List.mem_of_getElem? (i := 72) rfl))) (mvT hZ22 (hw _ (List.mem_of_getElem? (i := 71) rfl))) (by decide) (backOf (W := 0) (rm7 l Z a0 hw [] b26 b23 w6 b12 p3 w7 w8 T30.heap n0 O30 f32 f33 f34 f35 f36 hm S_FAILED (Fld.ne F_DONE F_FAILED (by decide)) S_TIMEOUT (Fld.ne F_DONE F_TIMEOUT (by decide))) hZ22 (hw _ (List.mem_of_getElem? (i := 73) rfl)) (hw _ (List.mem_of_getElem? (i := 60) rfl)) (by decide) (by decide)) q37a q37c (g := (mkF m 110 #[.val (.int p1), .val (.long q2), .second, .val (.int p3), .val (.int p4), .val (.int p5), .val (.int cc), .val (.int (0 : Int32)), .val (.ref w6), .val (.ref b12), .val (.ref b23), .val (.ref b26), .unset, .unset, .unset, .unset] [(.ref b23), (.ref b26)])) rfl (by rw [hml]; rfl) (Steps.refl _) (argsL := [(.ref b23)]) (rest := []) (lenOf pd_13 rfl) rfl (by show 2 * 0 + _ ≤ _; exact Nat.le_of_eq rfl) (hb hby at_110) (fun _ _ => ⟨rfl, rfl, (by decide : 15 + 0 ≤ _), (by decide : 99 + 0 ≤ _)⟩)
      dsimp only [Pt.U, Pt.locs, Pt.cells, Pt.slots] at X37 l37 y37 z37 st37 hQ37
      subst l37 y37 z37
      obtain ⟨rfl, Nq37, e37⟩ := hQ37
      have N37 := Fr.app N30 Nq37
      have pre38 : ∀ t, Steps p.tables e below (T37.setTop (mkF m 141 #[.val (.int p1), .val (.long q2), .second, .val (.int p3), .val (.int p4), .val (.int p5), .val (.int cc), .val (.int (0 : Int32)), .val (.ref w6), .val (.ref b12), .val (.ref b23), .val (.ref b26), .val (.int (0 : Int32)), .val (.int (0 : Int32)), .unset, .unset] [(.int p3), (.int p4)])) t → Steps p.tables e below (s₁.setTop (entryFrame m #[(.int p1), (.long q2), (.int p3), (.int p4), (.int p5)] maxLocals)) t := fun t kt => pre31 t (by
        show Steps p.tables e below (T30.setTop (mkF m 106 #[.val (.int p1), .val (.long q2), .second, .val (.int p3), .val (.int p4), .val (.int p5), .val (.int cc), .val (.int (0 : Int32)), .val (.ref w6), .val (.ref b12), .val (.ref b23), .val (.ref b26), .unset, .unset, .unset, .unset] [])) _
        refine XS.aload X30.here hx rfl (hb hby at_106) rfl rfl ?_
        refine XS.aload X30.here hx rfl (hb hby at_108) rfl rfl ?_
        show Steps p.tables e below (T30.setTop (mkF m 110 #[.val (.int p1), .val (.long q2), .second, .val (.int p3), .val (.int p4), .val (.int p5), .val (.int cc), .val (.int (0 : Int32)), .val (.ref w6), .val (.ref b12), .val (.ref b23), .val (.ref b26), .unset, .unset, .unset, .unset] [(.ref b23), (.ref b26)])) _
        refine st37.trans ?_
        show Steps p.tables e below (T37.setTop (mkF m 113 #[.val (.int p1), .val (.long q2), .second, .val (.int p3), .val (.int p4), .val (.int p5), .val (.int cc), .val (.int (0 : Int32)), .val (.ref w6), .val (.ref b12), .val (.ref b23), .val (.ref b26), .unset, .unset, .unset, .unset] [(.int (0 : Int32))])) _
        refine XS.istore X37.here hx rfl (hb hby at_113) rfl (l' := #[.val (.int p1), .val (.long q2), .second, .val (.int p3), .val (.int p4), .val (.int p5), .val (.int cc), .val (.int (0 : Int32)), .val (.ref w6), .val (.ref b12), .val (.ref b23), .val (.ref b26), .val (.int (0 : Int32)), .unset, .unset, .unset]) rfl ?_
        refine XS.iload X37.here hx rfl (hb hby at_115) rfl ?_
        refine XS.iconst X37.here hx rfl (hb hby at_117) ?_
        show Steps p.tables e below (T37.setTop (mkF m 118 #[.val (.int p1), .val (.long q2), .second, .val (.int p3), .val (.int p4), .val (.int p5), .val (.int cc), .val (.int (0 : Int32)), .val (.ref w6), .val (.ref b12), .val (.ref b23), .val (.ref b26), .val (.int (0 : Int32)), .unset, .unset, .unset] [(.int (1 : Int32)), (.int (0 : Int32))])) _
        refine XS.icmpNo X37.here hx rfl (hb hby at_118) rfl (feq ((by decide) : ¬ ((0 : Int32) = (1 : Int32)))).1 ?_
        refine XS.iload X37.here hx rfl (hb hby at_121) rfl ?_
        refine XS.iconst X37.here hx rfl (hb hby at_123) ?_
        show Steps p.tables e below (T37.setTop (mkF m 124 #[.val (.int p1), .val (.long q2), .second, .val (.int p3), .val (.int p4), .val (.int p5), .val (.int cc), .val (.int (0 : Int32)), .val (.ref w6), .val (.ref b12), .val (.ref b23), .val (.ref b26), .val (.int (0 : Int32)), .unset, .unset, .unset] [(.int (2 : Int32)), (.int (0 : Int32))])) _
        refine XS.icmpYes X37.here hx rfl (pc0 := 124) (pc' := 131) rfl (hb hby at_124) rfl (feq ((by decide) : ¬ ((0 : Int32) = (2 : Int32)))).2 (by decide) (by decide) ?_
        refine XS.iconst X37.here hx rfl (hb hby at_131) ?_
        refine XS.istore X37.here hx rfl (hb hby at_132) rfl (l' := #[.val (.int p1), .val (.long q2), .second, .val (.int p3), .val (.int p4), .val (.int p5), .val (.int cc), .val (.int (0 : Int32)), .val (.ref w6), .val (.ref b12), .val (.ref b23), .val (.ref b26), .val (.int (0 : Int32)), .val (.int (0 : Int32)), .unset, .unset]) rfl ?_
        show Steps p.tables e below (T37.setTop (mkF m 134 #[.val (.int p1), .val (.long q2), .second, .val (.int p3), .val (.int p4), .val (.int p5), .val (.int cc), .val (.int (0 : Int32)), .val (.ref w6), .val (.ref b12), .val (.ref b23), .val (.ref b26), .val (.int (0 : Int32)), .val (.int (0 : Int32)), .unset, .unset] [])) _
        refine XS.iloadN X37.here hx rfl (hb hby at_134) rfl ?_
        show Steps p.tables e below (T37.setTop (mkF m 135 #[.val (.int p1), .val (.long q2), .second, .val (.int p3), .val (.int p4), .val (.int p5), .val (.int cc), .val (.int (0 : Int32)), .val (.ref w6), .val (.ref b12), .val (.ref b23), .val (.ref b26), .val (.int (0 : Int32)), .val (.int (0 : Int32)), .unset, .unset] [(.int p3)])) _
        refine XS.ifNo X37.here hx rfl (hb hby at_135) rfl ((if0 _ _).trans (tlt (hm : (0 : Int32) < p3)).2.2.2) ?_
        refine XS.iload X37.here hx rfl (hb hby at_138) rfl ?_
        refine XS.iloadN X37.here hx rfl (hb hby at_140) rfl ?_
        exact kt)
      have pre39 : ∀ t, Steps p.tables e below (T37.setTop (mkF m 149 #[.val (.int p1), .val (.long q2), .second, .val (.int p3), .val (.int p4), .val (.int p5), .val (.int cc), .val (.int (0 : Int32)), .val (.ref w6), .val (.ref b12), .val (.ref b23), .val (.ref b26), .val (.int (0 : Int32)), .val (.int (0 : Int32)), .unset, .unset] [(.int (own_sl p4 p3 (1 : Int32) (0 : Int32)))])) t → Steps p.tables e below (s₁.setTop (entryFrame m #[(.int p1), (.long q2), (.int p3), (.int p4), (.int p5)] maxLocals)) t := fun t kt => pre38 t (by
        by_cases hd_ : p4 < p3
        · show Steps p.tables e below (T37.setTop (mkF m 141 #[.val (.int p1), .val (.long q2), .second, .val (.int p3), .val (.int p4), .val (.int p5), .val (.int cc), .val (.int (0 : Int32)), .val (.ref w6), .val (.ref b12), .val (.ref b23), .val (.ref b26), .val (.int (0 : Int32)), .val (.int (0 : Int32)), .unset, .unset] [(.int p3), (.int p4)])) _
          refine XS.icmpNo X37.here hx rfl (hb hby at_141) rfl (tlt (hd_ : p4 < p3)).2.1 ?_
          refine XS.iconst X37.here hx rfl (hb hby at_144) ?_
          refine XS.goto X37.here hx rfl (pc0 := 145) (pc' := 149) rfl (hb hby at_145) (by decide) (by decide) ?_
          rw [show (own_sl p4 p3 (1 : Int32) (0 : Int32)) = (1 : Int32) from if_pos hd_] at kt
          exact kt
        · show Steps p.tables e below (T37.setTop (mkF m 141 #[.val (.int p1), .val (.long q2), .second, .val (.int p3), .val (.int p4), .val (.int p5), .val (.int cc), .val (.int (0 : Int32)), .val (.ref w6), .val (.ref b12), .val (.ref b23), .val (.ref b26), .val (.int (0 : Int32)), .val (.int (0 : Int32)), .unset, .unset] [(.int p3), (.int p4)])) _
          refine XS.icmpYes X37.here hx rfl (pc0 := 141) (pc' := 148) rfl (hb hby at_141) rfl (flt (hd_ : ¬ (p4 < p3))).2.1 (by decide) (by decide) ?_
          refine XS.iconst X37.here hx rfl (hb hby at_148) ?_
          rw [show (own_sl p4 p3 (1 : Int32) (0 : Int32)) = (0 : Int32) from if_neg hd_] at kt
          exact kt)
      obtain ⟨fs, hr, hrun, hended, hREW⟩ := X37.leaveW (s := s) hS22 (by rw [e37]; exact (Nat.le_trans (Nat.le_trans (Nat.le_trans (Nat.le_trans (Nat.le_refl _) E23.1) K25.1) E26.1) K30.1)) (v := some (.int (1 : Int32))) (fun h => by rw [Bd.returns] at h; cases h)
      refine ⟨_, _, pre39 _ ?_, hrun, hended, _, _, rfl, ?_, hREW.1, hREW.2.1, hREW.2.2.1, hREW.2.2.2.mono (by decide) (by decide)⟩
      · show Steps p.tables e below (T37.setTop (mkF m 149 #[.val (.int p1), .val (.long q2), .second, .val (.int p3), .val (.int p4), .val (.int p5), .val (.int cc), .val (.int (0 : Int32)), .val (.ref w6), .val (.ref b12), .val (.ref b23), .val (.ref b26), .val (.int (0 : Int32)), .val (.int (0 : Int32)), .unset, .unset] [(.int (own_sl p4 p3 (1 : Int32) (0 : Int32)))])) _
        refine XS.istore X37.here hx rfl (hb hby at_149) rfl (l' := #[.val (.int p1), .val (.long q2), .second, .val (.int p3), .val (.int p4), .val (.int p5), .val (.int cc), .val (.int (0 : Int32)), .val (.ref w6), .val (.ref b12), .val (.ref b23), .val (.ref b26), .val (.int (0 : Int32)), .val (.int (0 : Int32)), .val (.int (own_sl p4 p3 (1 : Int32) (0 : Int32))), .unset]) rfl ?_
        refine XS.goto X37.here hx rfl (pc0 := 151) (pc' := 168) rfl (hb hby at_151) (by decide) (by decide) ?_
        refine XS.iload X37.here hx rfl (hb hby at_168) rfl ?_
        show Steps p.tables e below (T37.setTop (mkF m 170 #[.val (.int p1), .val (.long q2), .second, .val (.int p3), .val (.int p4), .val (.int p5), .val (.int cc), .val (.int (0 : Int32)), .val (.ref w6), .val (.ref b12), .val (.ref b23), .val (.ref b26), .val (.int (0 : Int32)), .val (.int (0 : Int32)), .val (.int (own_sl p4 p3 (1 : Int32) (0 : Int32))), .unset] [(.int (0 : Int32))])) _
        refine XS.ifYes X37.here hx rfl (pc0 := 170) (pc' := 182) rfl (hb hby at_170) rfl ((if0 _ _).trans (teq ((by decide) : (0 : Int32) = (0 : Int32))).1) (by decide) (by decide) ?_
        refine XS.iconst X37.here hx rfl (hb hby at_182) ?_
        refine XS.istore X37.here hx rfl (hb hby at_183) rfl (l' := #[.val (.int p1), .val (.long q2), .second, .val (.int p3), .val (.int p4), .val (.int p5), .val (.int cc), .val (.int (0 : Int32)), .val (.ref w6), .val (.ref b12), .val (.ref b23), .val (.ref b26), .val (.int (0 : Int32)), .val (.int (0 : Int32)), .val (.int (own_sl p4 p3 (1 : Int32) (0 : Int32))), .val (.int (0 : Int32))]) rfl ?_
        show Steps p.tables e below (T37.setTop (mkF m 185 #[.val (.int p1), .val (.long q2), .second, .val (.int p3), .val (.int p4), .val (.int p5), .val (.int cc), .val (.int (0 : Int32)), .val (.ref w6), .val (.ref b12), .val (.ref b23), .val (.ref b26), .val (.int (0 : Int32)), .val (.int (0 : Int32)), .val (.int (own_sl p4 p3 (1 : Int32) (0 : Int32))), .val (.int (0 : Int32))] [])) _
        refine XS.iload X37.here hx rfl (hb hby at_185) rfl ?_
        refine XS.iload X37.here hx rfl (hb hby at_187) rfl ?_
        show Steps p.tables e below (T37.setTop (mkF m 189 #[.val (.int p1), .val (.long q2), .second, .val (.int p3), .val (.int p4), .val (.int p5), .val (.int cc), .val (.int (0 : Int32)), .val (.ref w6), .val (.ref b12), .val (.ref b23), .val (.ref b26), .val (.int (0 : Int32)), .val (.int (0 : Int32)), .val (.int (own_sl p4 p3 (1 : Int32) (0 : Int32))), .val (.int (0 : Int32))] [(.int (0 : Int32)), (.int (0 : Int32))])) _
        refine XS.icmpNo X37.here hx rfl (hb hby at_189) rfl (teq ((by decide) : (0 : Int32) = (0 : Int32))).2 ?_
        refine XS.iconst X37.here hx rfl (hb hby at_192) ?_
        refine XS.goto X37.here hx rfl (pc0 := 193) (pc' := 197) rfl (hb hby at_193) (by decide) (by decide) ?_
        show Steps p.tables e below (T37.setTop (mkF m 197 #[.val (.int p1), .val (.long q2), .second, .val (.int p3), .val (.int p4), .val (.int p5), .val (.int cc), .val (.int (0 : Int32)), .val (.ref w6), .val (.ref b12), .val (.ref b23), .val (.ref b26), .val (.int (0 : Int32)), .val (.int (0 : Int32)), .val (.int (own_sl p4 p3 (1 : Int32) (0 : Int32))), .val (.int (0 : Int32))] [(.int (1 : Int32))])) _
        exact retN X37 hx (t := .boolean) Bd.returns (by simp) (hb hby at_197) hr
      · show Qrm0 Z p1 q2 p3 p4 p5 w6 w7 w8 w9 h0 n0 _ T37.heap _
        exact ⟨rfl, N37⟩
    · have f40 : Exa Z T30.heap b23 "com/example/runqueue/runqueue/Outcome" := ((P25_0.ext E26).keep K30)
      have f41 : Fld Z T30.heap b23 "com/example/runqueue/runqueue/Outcome" "state" "Lcom/example/runqueue/runqueue/Outcome$State;" (.ref w6) := ((P25_2.ext E26).keep K30 (ninS ne29 nin0))
      have f42 : Fld Z T30.heap b23 "com/example/runqueue/runqueue/Outcome" "job" "Lcom/example/runqueue/runqueue/Job;" (.ref b12) := ((P25_1.ext E26).keep K30 (ninS ne29 nin0))
      have f43 : Exa Z T30.heap b12 "com/example/runqueue/runqueue/Job" := ((f27.ext E26).keep K30)
      have f44 : Fld Z T30.heap b12 "com/example/runqueue/runqueue/Job" "maxAttempts" "I" (.int p3) := ((((P22_5.ext E23).keep K25 (ninS ne24 nin0)).ext E26).keep K30 (ninS ne28 nin0))
      obtain ⟨cq45, kq45, q45a, q45b, q45c⟩ := isOf hZ22 rfl P30_0
      obtain ⟨_, _, ⟨T45, L45, k45, n45⟩, -, X45, ⟨Lc45, hQ45, l45, y45, z45⟩, st45⟩ := X30.virtualBack hx (y := (⟨"com/example/runqueue/runqueue/Retries", "again", "(Lcom/example/runqueue/runqueue/Outcome;)Z"⟩ : MethodName)) (z := (⟨"com/example/runqueue/runqueue/Retries", "again", "(Lcom/example/runqueue/runqueue/Outcome;)Z"⟩ : MethodName)) hown22 (mvT hZ22 (hw _ (List.mem_of_getElem? (i := 69) rfl))) (mvT hZ22 (hw _ (List.mem_of_getElem? (i := 70) rfl))) (notFace_of_selects (args := #[]) (mvT hZ22 (hw _ (List.mem_of_getElem? (i := 72) rfl)))) (mvT hZ22 (hw _ (List.mem_of_getElem? (i := 72) rfl))) (mvT hZ22 (hw _ (List.mem_of_getElem? (i := 71) rfl))) (by decide) (backOf (W := 0) (rm7_1 l Z a0 hw [] b26 b23 w6 b12 p3 cc w7 w8 T30.heap n0 O30 f40 f41 f42 f43 f44 hm P30_1 S_FAILED (Fld.ne F_DONE F_FAILED (by decide)) S_TIMEOUT (Fld.ne F_DONE F_TIMEOUT (by decide))) hZ22 (hw _ (List.mem_of_getElem? (i := 73) rfl)) (hw _ (List.mem_of_getElem? (i := 60) rfl)) (by decide) (by decide)) q45a q45c (g := (mkF m 110 #[.val (.int p1), .val (.long q2), .second, .val (.int p3), .val (.int p4), .val (.int p5), .val (.int cc), .val (.int (0 : Int32)), .val (.ref w6), .val (.ref b12), .val (.ref b23), .val (.ref b26), .unset, .unset, .unset, .unset] [(.ref b23), (.ref b26)])) rfl (by rw [hml]; rfl) (Steps.refl _) (argsL := [(.ref b23)]) (rest := []) (lenOf pd_13 rfl) rfl (by show 2 * 0 + _ ≤ _; exact Nat.le_of_eq rfl) (hb hby at_110) (fun _ _ => ⟨rfl, rfl, (by decide : 15 + 0 ≤ _), (by decide : 99 + 0 ≤ _)⟩)
      dsimp only [Pt.U, Pt.locs, Pt.cells, Pt.slots] at X45 l45 y45 z45 st45 hQ45
      subst l45 y45 z45
      obtain ⟨rfl, Nq45, e45⟩ := hQ45
      have N45 := Fr.app N30 Nq45
      have pre46 : ∀ t, Steps p.tables e below (T45.setTop (mkF m 158 #[.val (.int p1), .val (.long q2), .second, .val (.int p3), .val (.int p4), .val (.int p5), .val (.int cc), .val (.int (0 : Int32)), .val (.ref w6), .val (.ref b12), .val (.ref b23), .val (.ref b26), .val (.int (0 : Int32)), .val (.int (0 : Int32)), .unset, .unset] [(.int cc), (.int p4)])) t → Steps p.tables e below (s₁.setTop (entryFrame m #[(.int p1), (.long q2), (.int p3), (.int p4), (.int p5)] maxLocals)) t := fun t kt => pre31 t (by
        show Steps p.tables e below (T30.setTop (mkF m 106 #[.val (.int p1), .val (.long q2), .second, .val (.int p3), .val (.int p4), .val (.int p5), .val (.int cc), .val (.int (0 : Int32)), .val (.ref w6), .val (.ref b12), .val (.ref b23), .val (.ref b26), .unset, .unset, .unset, .unset] [])) _
        refine XS.aload X30.here hx rfl (hb hby at_106) rfl rfl ?_
        refine XS.aload X30.here hx rfl (hb hby at_108) rfl rfl ?_
        show Steps p.tables e below (T30.setTop (mkF m 110 #[.val (.int p1), .val (.long q2), .second, .val (.int p3), .val (.int p4), .val (.int p5), .val (.int cc), .val (.int (0 : Int32)), .val (.ref w6), .val (.ref b12), .val (.ref b23), .val (.ref b26), .unset, .unset, .unset, .unset] [(.ref b23), (.ref b26)])) _
        refine st45.trans ?_
        show Steps p.tables e below (T45.setTop (mkF m 113 #[.val (.int p1), .val (.long q2), .second, .val (.int p3), .val (.int p4), .val (.int p5), .val (.int cc), .val (.int (0 : Int32)), .val (.ref w6), .val (.ref b12), .val (.ref b23), .val (.ref b26), .unset, .unset, .unset, .unset] [(.int (0 : Int32))])) _
        refine XS.istore X45.here hx rfl (hb hby at_113) rfl (l' := #[.val (.int p1), .val (.long q2), .second, .val (.int p3), .val (.int p4), .val (.int p5), .val (.int cc), .val (.int (0 : Int32)), .val (.ref w6), .val (.ref b12), .val (.ref b23), .val (.ref b26), .val (.int (0 : Int32)), .unset, .unset, .unset]) rfl ?_
        refine XS.iload X45.here hx rfl (hb hby at_115) rfl ?_
        refine XS.iconst X45.here hx rfl (hb hby at_117) ?_
        show Steps p.tables e below (T45.setTop (mkF m 118 #[.val (.int p1), .val (.long q2), .second, .val (.int p3), .val (.int p4), .val (.int p5), .val (.int cc), .val (.int (0 : Int32)), .val (.ref w6), .val (.ref b12), .val (.ref b23), .val (.ref b26), .val (.int (0 : Int32)), .unset, .unset, .unset] [(.int (1 : Int32)), (.int (0 : Int32))])) _
        refine XS.icmpNo X45.here hx rfl (hb hby at_118) rfl (feq ((by decide) : ¬ ((0 : Int32) = (1 : Int32)))).1 ?_
        refine XS.iload X45.here hx rfl (hb hby at_121) rfl ?_
        refine XS.iconst X45.here hx rfl (hb hby at_123) ?_
        show Steps p.tables e below (T45.setTop (mkF m 124 #[.val (.int p1), .val (.long q2), .second, .val (.int p3), .val (.int p4), .val (.int p5), .val (.int cc), .val (.int (0 : Int32)), .val (.ref w6), .val (.ref b12), .val (.ref b23), .val (.ref b26), .val (.int (0 : Int32)), .unset, .unset, .unset] [(.int (2 : Int32)), (.int (0 : Int32))])) _
        refine XS.icmpYes X45.here hx rfl (pc0 := 124) (pc' := 131) rfl (hb hby at_124) rfl (feq ((by decide) : ¬ ((0 : Int32) = (2 : Int32)))).2 (by decide) (by decide) ?_
        refine XS.iconst X45.here hx rfl (hb hby at_131) ?_
        refine XS.istore X45.here hx rfl (hb hby at_132) rfl (l' := #[.val (.int p1), .val (.long q2), .second, .val (.int p3), .val (.int p4), .val (.int p5), .val (.int cc), .val (.int (0 : Int32)), .val (.ref w6), .val (.ref b12), .val (.ref b23), .val (.ref b26), .val (.int (0 : Int32)), .val (.int (0 : Int32)), .unset, .unset]) rfl ?_
        show Steps p.tables e below (T45.setTop (mkF m 134 #[.val (.int p1), .val (.long q2), .second, .val (.int p3), .val (.int p4), .val (.int p5), .val (.int cc), .val (.int (0 : Int32)), .val (.ref w6), .val (.ref b12), .val (.ref b23), .val (.ref b26), .val (.int (0 : Int32)), .val (.int (0 : Int32)), .unset, .unset] [])) _
        refine XS.iloadN X45.here hx rfl (hb hby at_134) rfl ?_
        show Steps p.tables e below (T45.setTop (mkF m 135 #[.val (.int p1), .val (.long q2), .second, .val (.int p3), .val (.int p4), .val (.int p5), .val (.int cc), .val (.int (0 : Int32)), .val (.ref w6), .val (.ref b12), .val (.ref b23), .val (.ref b26), .val (.int (0 : Int32)), .val (.int (0 : Int32)), .unset, .unset] [(.int p3)])) _
        refine XS.ifYes X45.here hx rfl (pc0 := 135) (pc' := 154) rfl (hb hby at_135) rfl ((if0 _ _).trans (flt (hm : ¬ ((0 : Int32) < p3))).2.2.2) (by decide) (by decide) ?_
        refine XS.iload X45.here hx rfl (hb hby at_154) rfl ?_
        refine XS.iload X45.here hx rfl (hb hby at_156) rfl ?_
        exact kt)
      have pre47 : ∀ t, Steps p.tables e below (T45.setTop (mkF m 166 #[.val (.int p1), .val (.long q2), .second, .val (.int p3), .val (.int p4), .val (.int p5), .val (.int cc), .val (.int (0 : Int32)), .val (.ref w6), .val (.ref b12), .val (.ref b23), .val (.ref b26), .val (.int (0 : Int32)), .val (.int (0 : Int32)), .unset, .unset] [(.int (own_sl cc p4 (0 : Int32) (1 : Int32)))])) t → Steps p.tables e below (s₁.setTop (entryFrame m #[(.int p1), (.long q2), (.int p3), (.int p4), (.int p5)] maxLocals)) t := fun t kt => pre46 t (by
        by_cases hd_ : cc < p4
        · show Steps p.tables e below (T45.setTop (mkF m 158 #[.val (.int p1), .val (.long q2), .second, .val (.int p3), .val (.int p4), .val (.int p5), .val (.int cc), .val (.int (0 : Int32)), .val (.ref w6), .val (.ref b12), .val (.ref b23), .val (.ref b26), .val (.int (0 : Int32)), .val (.int (0 : Int32)), .unset, .unset] [(.int cc), (.int p4)])) _
          refine XS.icmpYes X45.here hx rfl (pc0 := 158) (pc' := 165) rfl (hb hby at_158) rfl (tlt (hd_ : cc < p4)).2.2.1 (by decide) (by decide) ?_
          refine XS.iconst X45.here hx rfl (hb hby at_165) ?_
          rw [show (own_sl cc p4 (0 : Int32) (1 : Int32)) = (0 : Int32) from if_pos hd_] at kt
          exact kt
        · show Steps p.tables e below (T45.setTop (mkF m 158 #[.val (.int p1), .val (.long q2), .second, .val (.int p3), .val (.int p4), .val (.int p5), .val (.int cc), .val (.int (0 : Int32)), .val (.ref w6), .val (.ref b12), .val (.ref b23), .val (.ref b26), .val (.int (0 : Int32)), .val (.int (0 : Int32)), .unset, .unset] [(.int cc), (.int p4)])) _
          refine XS.icmpNo X45.here hx rfl (hb hby at_158) rfl (flt (hd_ : ¬ (cc < p4))).2.2.1 ?_
          refine XS.iconst X45.here hx rfl (hb hby at_161) ?_
          refine XS.goto X45.here hx rfl (pc0 := 162) (pc' := 166) rfl (hb hby at_162) (by decide) (by decide) ?_
          rw [show (own_sl cc p4 (0 : Int32) (1 : Int32)) = (1 : Int32) from if_neg hd_] at kt
          exact kt)
      obtain ⟨fs, hr, hrun, hended, hREW⟩ := X45.leaveW (s := s) hS22 (by rw [e45]; exact (Nat.le_trans (Nat.le_trans (Nat.le_trans (Nat.le_trans (Nat.le_refl _) E23.1) K25.1) E26.1) K30.1)) (v := some (.int (1 : Int32))) (fun h => by rw [Bd.returns] at h; cases h)
      refine ⟨_, _, pre47 _ ?_, hrun, hended, _, _, rfl, ?_, hREW.1, hREW.2.1, hREW.2.2.1, hREW.2.2.2.mono (by decide) (by decide)⟩
      · show Steps p.tables e below (T45.setTop (mkF m 166 #[.val (.int p1), .val (.long q2), .second, .val (.int p3), .val (.int p4), .val (.int p5), .val (.int cc), .val (.int (0 : Int32)), .val (.ref w6), .val (.ref b12), .val (.ref b23), .val (.ref b26), .val (.int (0 : Int32)), .val (.int (0 : Int32)), .unset, .unset] [(.int (own_sl cc p4 (0 : Int32) (1 : Int32)))])) _
        refine XS.istore X45.here hx rfl (hb hby at_166) rfl (l' := #[.val (.int p1), .val (.long q2), .second, .val (.int p3), .val (.int p4), .val (.int p5), .val (.int cc), .val (.int (0 : Int32)), .val (.ref w6), .val (.ref b12), .val (.ref b23), .val (.ref b26), .val (.int (0 : Int32)), .val (.int (0 : Int32)), .val (.int (own_sl cc p4 (0 : Int32) (1 : Int32))), .unset]) rfl ?_
        refine XS.iload X45.here hx rfl (hb hby at_168) rfl ?_
        show Steps p.tables e below (T45.setTop (mkF m 170 #[.val (.int p1), .val (.long q2), .second, .val (.int p3), .val (.int p4), .val (.int p5), .val (.int cc), .val (.int (0 : Int32)), .val (.ref w6), .val (.ref b12), .val (.ref b23), .val (.ref b26), .val (.int (0 : Int32)), .val (.int (0 : Int32)), .val (.int (own_sl cc p4 (0 : Int32) (1 : Int32))), .unset] [(.int (0 : Int32))])) _
        refine XS.ifYes X45.here hx rfl (pc0 := 170) (pc' := 182) rfl (hb hby at_170) rfl ((if0 _ _).trans (teq ((by decide) : (0 : Int32) = (0 : Int32))).1) (by decide) (by decide) ?_
        refine XS.iconst X45.here hx rfl (hb hby at_182) ?_
        refine XS.istore X45.here hx rfl (hb hby at_183) rfl (l' := #[.val (.int p1), .val (.long q2), .second, .val (.int p3), .val (.int p4), .val (.int p5), .val (.int cc), .val (.int (0 : Int32)), .val (.ref w6), .val (.ref b12), .val (.ref b23), .val (.ref b26), .val (.int (0 : Int32)), .val (.int (0 : Int32)), .val (.int (own_sl cc p4 (0 : Int32) (1 : Int32))), .val (.int (0 : Int32))]) rfl ?_
        show Steps p.tables e below (T45.setTop (mkF m 185 #[.val (.int p1), .val (.long q2), .second, .val (.int p3), .val (.int p4), .val (.int p5), .val (.int cc), .val (.int (0 : Int32)), .val (.ref w6), .val (.ref b12), .val (.ref b23), .val (.ref b26), .val (.int (0 : Int32)), .val (.int (0 : Int32)), .val (.int (own_sl cc p4 (0 : Int32) (1 : Int32))), .val (.int (0 : Int32))] [])) _
        refine XS.iload X45.here hx rfl (hb hby at_185) rfl ?_
        refine XS.iload X45.here hx rfl (hb hby at_187) rfl ?_
        show Steps p.tables e below (T45.setTop (mkF m 189 #[.val (.int p1), .val (.long q2), .second, .val (.int p3), .val (.int p4), .val (.int p5), .val (.int cc), .val (.int (0 : Int32)), .val (.ref w6), .val (.ref b12), .val (.ref b23), .val (.ref b26), .val (.int (0 : Int32)), .val (.int (0 : Int32)), .val (.int (own_sl cc p4 (0 : Int32) (1 : Int32))), .val (.int (0 : Int32))] [(.int (0 : Int32)), (.int (0 : Int32))])) _
        refine XS.icmpNo X45.here hx rfl (hb hby at_189) rfl (teq ((by decide) : (0 : Int32) = (0 : Int32))).2 ?_
        refine XS.iconst X45.here hx rfl (hb hby at_192) ?_
        refine XS.goto X45.here hx rfl (pc0 := 193) (pc' := 197) rfl (hb hby at_193) (by decide) (by decide) ?_
        show Steps p.tables e below (T45.setTop (mkF m 197 #[.val (.int p1), .val (.long q2), .second, .val (.int p3), .val (.int p4), .val (.int p5), .val (.int cc), .val (.int (0 : Int32)), .val (.ref w6), .val (.ref b12), .val (.ref b23), .val (.ref b26), .val (.int (0 : Int32)), .val (.int (0 : Int32)), .val (.int (own_sl cc p4 (0 : Int32) (1 : Int32))), .val (.int (0 : Int32))] [(.int (1 : Int32))])) _
        exact retN X45 hx (t := .boolean) Bd.returns (by simp) (hb hby at_197) hr
      · show Qrm0 Z p1 q2 p3 p4 p5 w6 w7 w8 w9 h0 n0 _ T45.heap _
        exact ⟨rfl, N45⟩
  · obtain ⟨T48, X48, e48, st48⟩ := getS2 X0 hx hZ hown (host := "") (Or.inl (hw _ (List.mem_of_getElem? (i := 99) rfl))) Via.refl e0 (S_FAILED.ext O0.2) (g := (mkF m 34 #[.val (.int p1), .val (.long q2), .second, .val (.int p3), .val (.int p4), .val (.int p5), .val (.int cc), .val (.int (1 : Int32)), .unset, .unset, .unset, .unset, .unset, .unset, .unset, .unset] [])) rfl (hb hby at_34)
    obtain ⟨T49, h49, X49, e49, E49, A49, D49, U49, st49⟩ := newO X48 hx hZ hown (hw _ (List.mem_of_getElem? (i := 4) rfl)) (hw _ (List.mem_of_getElem? (i := 5) rfl)) (hw _ (List.mem_of_getElem? (i := 6) rfl)) e48 (g := (mkF m 61 #[.val (.int p1), .val (.long q2), .second, .val (.int p3), .val (.int p4), .val (.int p5), .val (.int cc), .val (.int (1 : Int32)), .val (.ref w7), .unset, .unset, .unset, .unset, .unset, .unset, .unset] [])) rfl (hb hby at_61) (by decide) (by decide)
    obtain ⟨b49, g49⟩ : ∃ z, z = h0.size := ⟨_, rfl⟩
    rw [← g49] at A49 D49 U49 st49
    have g_b49 : n0 ≤ b49 := own_born O0 (own_eqle g49)
    have sz_b49 : h0.size ≤ b49 := Nat.le_trans (Keep.refl h0 []).1 (own_eqle g49)
    have K49 : Keep h0 h49 [] := (Keep.refl h0 []).ext E49
    have O49 : Old Z n0 h49 := O0.ext E49
    have F49_id : Fld Z h49 b49 "com/example/runqueue/runqueue/Job" "id" "Ljava/lang/String;" .null := D49 (Or.inr (hw _ (List.mem_of_getElem? (i := 34) rfl))) (ty := (.object "java/lang/String")) (by decide)
    have F49_name : Fld Z h49 b49 "com/example/runqueue/runqueue/Job" "name" "Ljava/lang/String;" .null := D49 (Or.inr (hw _ (List.mem_of_getElem? (i := 36) rfl))) (ty := (.object "java/lang/String")) (by decide)
    have F49_command : Fld Z h49 b49 "com/example/runqueue/runqueue/Job" "command" "Ljava/lang/String;" .null := D49 (Or.inr (hw _ (List.mem_of_getElem? (i := 38) rfl))) (ty := (.object "java/lang/String")) (by decide)
    have F49_timeoutMillis : Fld Z h49 b49 "com/example/runqueue/runqueue/Job" "timeoutMillis" "J" (.long (0 : Int64)) := D49 (Or.inr (hw _ (List.mem_of_getElem? (i := 40) rfl))) (ty := .long) (by decide)
    have F49_maxAttempts : Fld Z h49 b49 "com/example/runqueue/runqueue/Job" "maxAttempts" "I" (.int (0 : Int32)) := D49 (Or.inr (hw _ (List.mem_of_getElem? (i := 42) rfl))) (ty := .int) (by decide)
    obtain ⟨b50, T50, h50, k50, X50, e50, E50, hS50, hk50, hZ50, hown50, st50⟩ := ldcS (s := s) (vm0 := s.vm) X49 hx hZ hown (hw _ (List.mem_of_getElem? (i := 7) rfl)) (own_wS hw) e49 hS0 (Nat.le_trans (Nat.zero_le _) E49.1) (g := (mkF m 65 #[.val (.int p1), .val (.long q2), .second, .val (.int p3), .val (.int p4), .val (.int p5), .val (.int cc), .val (.int (1 : Int32)), .val (.ref w7), .unset, .unset, .unset, .unset, .unset, .unset, .unset] [(.ref b49), (.ref b49)])) rfl (hb hby at_65) (n := 4) (by decide) (by decide) (by decide) (by decide)
    have K50 : Keep h0 h50 [] := K49.ext E50
    have O50 : Old Z n0 h50 := O49.ext E50
    obtain ⟨b51, T51, h51, k51, X51, e51, E51, hS51, hk51, hZ51, hown51, st51⟩ := ldcS (s := s) (vm0 := T50.vm) X50 hx hZ50 hown50 (hw _ (List.mem_of_getElem? (i := 7) rfl)) (own_wS hw) e50 hS50 hk50 (g := (mkF m 67 #[.val (.int p1), .val (.long q2), .second, .val (.int p3), .val (.int p4), .val (.int p5), .val (.int cc), .val (.int (1 : Int32)), .val (.ref w7), .unset, .unset, .unset, .unset, .unset, .unset, .unset] [(.ref b50), (.ref b49), (.ref b49)])) rfl (hb hby at_67) (n := 4) (by decide) (by decide) (by decide) (by decide)
    have K51 : Keep h0 h51 [] := K50.ext E51
    have O51 : Old Z n0 h51 := O50.ext E51
    obtain ⟨b52, T52, h52, k52, X52, e52, E52, hS52, hk52, hZ52, hown52, st52⟩ := ldcS (s := s) (vm0 := T51.vm) X51 hx hZ51 hown51 (hw _ (List.mem_of_getElem? (i := 7) rfl)) (own_wS hw) e51 hS51 hk51 (g := (mkF m 69 #[.val (.int p1), .val (.long q2), .second, .val (.int p3), .val (.int p4), .val (.int p5), .val (.int cc), .val (.int (1 : Int32)), .val (.ref w7), .unset, .unset, .unset, .unset, .unset, .unset, .unset] [(.ref b51), (.ref b50), (.ref b49), (.ref b49)])) rfl (hb hby at_69) (n := 4) (by decide) (by decide) (by decide) (by decide)
    have K52 : Keep h0 h52 [] := K51.ext E52
    have O52 : Old Z n0 h52 := O51.ext E52
    have f53 : Exa Z h52 b49 "com/example/runqueue/runqueue/Job" := (((A49.ext E50).ext E51).ext E52)
    have f54 : Fld Z h52 b49 "com/example/runqueue/runqueue/Job" "id" "Ljava/lang/String;" .null := (((F49_id.ext E50).ext E51).ext E52)
    have f55 : Fld Z h52 b49 "com/example/runqueue/runqueue/Job" "name" "Ljava/lang/String;" .null := (((F49_name.ext E50).ext E51).ext E52)
    have f56 : Fld Z h52 b49 "com/example/runqueue/runqueue/Job" "command" "Ljava/lang/String;" .null := (((F49_command.ext E50).ext E51).ext E52)
    have f57 : Fld Z h52 b49 "com/example/runqueue/runqueue/Job" "timeoutMillis" "J" (.long (0 : Int64)) := (((F49_timeoutMillis.ext E50).ext E51).ext E52)
    have f58 : Fld Z h52 b49 "com/example/runqueue/runqueue/Job" "maxAttempts" "I" (.int (0 : Int32)) := (((F49_maxAttempts.ext E50).ext E51).ext E52)
    obtain ⟨_, _, ⟨T59, L59, k59, n59⟩, -, X59, h259, hg59, ⟨Lc59, hQ59, l59, y59, z59⟩, st59⟩ := X52.specialBackS hx (y := (⟨"com/example/runqueue/runqueue/Job", "<init>", "(Ljava/lang/String;Ljava/lang/String;Ljava/lang/String;JI)V"⟩ : MethodName)) rfl hown52 (mvT hZ52 (hw _ (List.mem_of_getElem? (i := 15) rfl))) (mvT hZ52 (hw _ (List.mem_of_getElem? (i := 16) rfl))) (mvT hZ52 (hw _ (List.mem_of_getElem? (i := 17) rfl))) (by decide) (backOfS (W := 1) (rm1 l Z a0 hw [] b49 b50 b51 b52 p3 h52 n0 O52 f53 f54 g_b49 f55 f56 f57 f58) hZ52 (hw _ (List.mem_of_getElem? (i := 17) rfl)) (hw _ (List.mem_of_getElem? (i := 6) rfl)) (by decide) (by decide)) (g := (mkF m 73 #[.val (.int p1), .val (.long q2), .second, .val (.int p3), .val (.int p4), .val (.int p5), .val (.int cc), .val (.int (1 : Int32)), .val (.ref w7), .unset, .unset, .unset, .unset, .unset, .unset, .unset] [(.int p3), (.long (0 : Int64)), (.ref b52), (.ref b51), (.ref b50), (.ref b49), (.ref b49)])) rfl (by rw [hml]; rfl) (Steps.refl _) (a := b49) (argsL := [(.ref b50), (.ref b51), (.ref b52), (.long (0 : Int64)), (.int p3)]) (rest := [(.ref b49)]) (lenOf pd_5 rfl) rfl (by show 2 * 0 + _ ≤ _; exact Nat.le_of_eq rfl) (hb hby at_73) (fun _ _ => ⟨rfl, e52, (by decide : 7 + 6 ≤ _), (by decide : 29 + 64 ≤ _)⟩)
    dsimp only [Pt.U, Pt.locs, Pt.cells, Pt.slots] at X59 l59 y59 z59 st59 hQ59 h259 hg59
    subst l59 y59 z59
    obtain ⟨X59, hS59, hZ59, hown59⟩ := rebS (s := s) (vm0 := T52.vm) hS52 (show _ ≤ T52.heap.size from (by rw [e52]; exact hk52)) X59 h259 hg59 hZ52 hown52
    obtain ⟨rfl, Nq59, K59, P59_0, P59_1, P59_2, P59_3, P59_4, P59_5⟩ := hQ59
    have N59 := Fr.app N0 Nq59
    have KK59 : Keep h0 T59.heap [] := Keep.trans (h := h52) K52 K59 (allS (Or.inr sz_b49) all0)
    have O59 : Old Z n0 T59.heap := O52.keep K59 (allS g_b49 all0)
    obtain ⟨T60, h60, X60, e60, E60, A60, D60, U60, st60⟩ := newO X59 hx hZ59 hown59 (hw _ (List.mem_of_getElem? (i := 43) rfl)) (hw _ (List.mem_of_getElem? (i := 44) rfl)) (hw _ (List.mem_of_getElem? (i := 45) rfl)) rfl (g := (mkF m 78 #[.val (.int p1), .val (.long q2), .second, .val (.int p3), .val (.int p4), .val (.int p5), .val (.int cc), .val (.int (1 : Int32)), .val (.ref w7), .val (.ref b49), .unset, .unset, .unset, .unset, .unset, .unset] [])) rfl (hb hby at_78) (by decide) (by decide)
    obtain ⟨b60, g60⟩ : ∃ z, z = T59.heap.size := ⟨_, rfl⟩
    rw [← g60] at A60 D60 U60 st60
    have ne61 : b49 ≠ b60 := (own_ltn P59_0.lt (own_eqle g60))
    have g_b60 : n0 ≤ b60 := own_born O59 (own_eqle g60)
    have sz_b60 : h0.size ≤ b60 := Nat.le_trans KK59.1 (own_eqle g60)
    have K60 : Keep h0 h60 [] := KK59.ext E60
    have O60 : Old Z n0 h60 := O59.ext E60
    have F60_job : Fld Z h60 b60 "com/example/runqueue/runqueue/Outcome" "job" "Lcom/example/runqueue/runqueue/Job;" .null := D60 (Or.inr (hw _ (List.mem_of_getElem? (i := 51) rfl))) (ty := (.object "com/example/runqueue/runqueue/Job")) (by decide)
    have F60_state : Fld Z h60 b60 "com/example/runqueue/runqueue/Outcome" "state" "Lcom/example/runqueue/runqueue/Outcome$State;" .null := D60 (Or.inr (hw _ (List.mem_of_getElem? (i := 53) rfl))) (ty := (.object "com/example/runqueue/runqueue/Outcome$State")) (by decide)
    have F60_attempts : Fld Z h60 b60 "com/example/runqueue/runqueue/Outcome" "attempts" "I" (.int (0 : Int32)) := D60 (Or.inr (hw _ (List.mem_of_getElem? (i := 55) rfl))) (ty := .int) (by decide)
    have F60_last : Fld Z h60 b60 "com/example/runqueue/runqueue/Outcome" "last" "Lcom/example/runqueue/runqueue/Outcome$Run;" .null := D60 (Or.inr (hw _ (List.mem_of_getElem? (i := 57) rfl))) (ty := (.object "com/example/runqueue/runqueue/Outcome$Run")) (by decide)
    obtain ⟨_, _, ⟨T62, L62, k62, n62⟩, -, X62, ⟨Lc62, hQ62, l62, y62, z62⟩, st62⟩ := X60.specialBack hx (y := (⟨"com/example/runqueue/runqueue/Outcome", "<init>", "(Lcom/example/runqueue/runqueue/Job;Lcom/example/runqueue/runqueue/Outcome$State;ILcom/example/runqueue/runqueue/Outcome$Run;)V"⟩ : MethodName)) rfl hown59 (mvT hZ59 (hw _ (List.mem_of_getElem? (i := 46) rfl))) (mvT hZ59 (hw _ (List.mem_of_getElem? (i := 47) rfl))) (mvT hZ59 (hw _ (List.mem_of_getElem? (i := 48) rfl))) (by decide) (backOf (W := 1) (rm5 l Z a0 hw [] b60 b49 w7 p4 h60 n0 O60 A60 F60_job g_b60 F60_state F60_attempts F60_last) hZ59 (hw _ (List.mem_of_getElem? (i := 48) rfl)) (hw _ (List.mem_of_getElem? (i := 45) rfl)) (by decide) (by decide)) (g := (mkF m 89 #[.val (.int p1), .val (.long q2), .second, .val (.int p3), .val (.int p4), .val (.int p5), .val (.int cc), .val (.int (1 : Int32)), .val (.ref w7), .val (.ref b49), .unset, .unset, .unset, .unset, .unset, .unset] [.null, (.int p4), (.ref w7), (.ref b49), (.ref b60), (.ref b60)])) rfl (by rw [hml]; rfl) (Steps.refl _) (a := b60) (argsL := [(.ref b49), (.ref w7), (.int p4), .null]) (rest := [(.ref b60)]) (lenOf pd_7 rfl) rfl (by show 2 * 0 + _ ≤ _; exact Nat.le_of_eq rfl) (hb hby at_89) (fun _ _ => ⟨rfl, e60, (by decide : 14 + 0 ≤ _), (by decide : 97 + 0 ≤ _)⟩)
    dsimp only [Pt.U, Pt.locs, Pt.cells, Pt.slots] at X62 l62 y62 z62 st62 hQ62
    subst l62 y62 z62
    obtain ⟨rfl, Nq62, K62, P62_0, P62_1, P62_2, P62_3, P62_4⟩ := hQ62
    have N62 := Fr.app N59 Nq62
    have KK62 : Keep h0 T62.heap [] := Keep.trans (h := h60) K60 K62 (allS (Or.inr sz_b60) all0)
    have O62 : Old Z n0 T62.heap := O60.keep K62 (allS g_b60 all0)
    obtain ⟨T63, h63, X63, e63, E63, A63, D63, U63, st63⟩ := newO X62 hx hZ59 hown59 (hw _ (List.mem_of_getElem? (i := 58) rfl)) (hw _ (List.mem_of_getElem? (i := 59) rfl)) (hw _ (List.mem_of_getElem? (i := 60) rfl)) rfl (g := (mkF m 94 #[.val (.int p1), .val (.long q2), .second, .val (.int p3), .val (.int p4), .val (.int p5), .val (.int cc), .val (.int (1 : Int32)), .val (.ref w7), .val (.ref b49), .val (.ref b60), .unset, .unset, .unset, .unset, .unset] [])) rfl (hb hby at_94) (by decide) (by decide)
    obtain ⟨b63, g63⟩ : ∃ z, z = T62.heap.size := ⟨_, rfl⟩
    rw [← g63] at A63 D63 U63 st63
    have f64 : Exa Z T62.heap b49 "com/example/runqueue/runqueue/Job" := ((P59_0.ext E60).keep K62)
    have ne65 : b49 ≠ b63 := (own_ltn f64.lt (own_eqle g63))
    have ne66 : b60 ≠ b63 := (own_ltn P62_0.lt (own_eqle g63))
    have g_b63 : n0 ≤ b63 := own_born O62 (own_eqle g63)
    have sz_b63 : h0.size ≤ b63 := Nat.le_trans KK62.1 (own_eqle g63)
    have K63 : Keep h0 h63 [] := KK62.ext E63
    have O63 : Old Z n0 h63 := O62.ext E63
    have F63_count : Fld Z h63 b63 "com/example/runqueue/runqueue/Retries" "count" "I" (.int (0 : Int32)) := D63 (Or.inr (hw _ (List.mem_of_getElem? (i := 66) rfl))) (ty := .int) (by decide)
    have F63_backoffMillis : Fld Z h63 b63 "com/example/runqueue/runqueue/Retries" "backoffMillis" "J" (.long (0 : Int64)) := D63 (Or.inr (hw _ (List.mem_of_getElem? (i := 68) rfl))) (ty := .long) (by decide)
    obtain ⟨_, _, ⟨T67, L67, k67, n67⟩, -, X67, ⟨Lc67, hQ67, l67, y67, z67⟩, st67⟩ := X63.specialBack hx (y := (⟨"com/example/runqueue/runqueue/Retries", "<init>", "(IJ)V"⟩ : MethodName)) rfl hown59 (mvT hZ59 (hw _ (List.mem_of_getElem? (i := 61) rfl))) (mvT hZ59 (hw _ (List.mem_of_getElem? (i := 62) rfl))) (mvT hZ59 (hw _ (List.mem_of_getElem? (i := 63) rfl))) (by decide) (backOf (W := 1) (rm6 l Z a0 hw [] b63 cc q2 h63 n0 O63 A63 F63_count g_b63 F63_backoffMillis) hZ59 (hw _ (List.mem_of_getElem? (i := 63) rfl)) (hw _ (List.mem_of_getElem? (i := 60) rfl)) (by decide) (by decide)) (g := (mkF m 101 #[.val (.int p1), .val (.long q2), .second, .val (.int p3), .val (.int p4), .val (.int p5), .val (.int cc), .val (.int (1 : Int32)), .val (.ref w7), .val (.ref b49), .val (.ref b60), .unset, .unset, .unset, .unset, .unset] [(.long q2), (.int cc), (.ref b63), (.ref b63)])) rfl (by rw [hml]; rfl) (Steps.refl _) (a := b63) (argsL := [(.int cc), (.long q2)]) (rest := [(.ref b63)]) (lenOf pd_9 rfl) rfl (by show 2 * 0 + _ ≤ _; exact Nat.le_of_eq rfl) (hb hby at_101) (fun _ _ => ⟨rfl, e63, (by decide : 15 + 0 ≤ _), (by decide : 99 + 0 ≤ _)⟩)
    dsimp only [Pt.U, Pt.locs, Pt.cells, Pt.slots] at X67 l67 y67 z67 st67 hQ67
    subst l67 y67 z67
    obtain ⟨rfl, Nq67, K67, P67_0, P67_1, P67_2⟩ := hQ67
    have N67 := Fr.app N62 Nq67
    have KK67 : Keep h0 T67.heap [] := Keep.trans (h := h63) K63 K67 (allS (Or.inr sz_b63) all0)
    have O67 : Old Z n0 T67.heap := O63.keep K67 (allS g_b63 all0)
    have pre68 : ∀ t, Steps p.tables e below (T67.setTop (mkF m 106 #[.val (.int p1), .val (.long q2), .second, .val (.int p3), .val (.int p4), .val (.int p5), .val (.int cc), .val (.int (1 : Int32)), .val (.ref w7), .val (.ref b49), .val (.ref b60), .val (.ref b63), .unset, .unset, .unset, .unset] [])) t → Steps p.tables e below (s₁.setTop (entryFrame m #[(.int p1), (.long q2), (.int p3), (.int p4), (.int p5)] maxLocals)) t := fun t kt => pre10 t (by
      show Steps p.tables e below (s₁.setTop (mkF m 15 #[.val (.int p1), .val (.long q2), .second, .val (.int p3), .val (.int p4), .val (.int p5), .val (.int cc), .val (.int (p5 &&& (3 : Int32))), .unset, .unset, .unset, .unset, .unset, .unset, .unset, .unset] [])) _
      rw [hk]
      show Steps p.tables e below (s₁.setTop (mkF m 15 #[.val (.int p1), .val (.long q2), .second, .val (.int p3), .val (.int p4), .val (.int p5), .val (.int cc), .val (.int (1 : Int32)), .unset, .unset, .unset, .unset, .unset, .unset, .unset, .unset] [])) _
      refine XS.iload X0.here hx rfl (hb hby at_15) rfl ?_
      show Steps p.tables e below (s₁.setTop (mkF m 17 #[.val (.int p1), .val (.long q2), .second, .val (.int p3), .val (.int p4), .val (.int p5), .val (.int cc), .val (.int (1 : Int32)), .unset, .unset, .unset, .unset, .unset, .unset, .unset, .unset] [(.int (1 : Int32))])) _
      refine XS.ifYes X0.here hx rfl (pc0 := 17) (pc' := 28) rfl (hb hby at_17) rfl ((if0 _ _).trans (feq ((by decide) : ¬ ((1 : Int32) = (0 : Int32)))).2) (by decide) (by decide) ?_
      refine XS.iload X0.here hx rfl (hb hby at_28) rfl ?_
      refine XS.iconst X0.here hx rfl (hb hby at_30) ?_
      show Steps p.tables e below (s₁.setTop (mkF m 31 #[.val (.int p1), .val (.long q2), .second, .val (.int p3), .val (.int p4), .val (.int p5), .val (.int cc), .val (.int (1 : Int32)), .unset, .unset, .unset, .unset, .unset, .unset, .unset, .unset] [(.int (1 : Int32)), (.int (1 : Int32))])) _
      refine XS.icmpNo X0.here hx rfl (hb hby at_31) rfl (teq ((by decide) : (1 : Int32) = (1 : Int32))).2 ?_
      show Steps p.tables e below (s₁.setTop (mkF m 34 #[.val (.int p1), .val (.long q2), .second, .val (.int p3), .val (.int p4), .val (.int p5), .val (.int cc), .val (.int (1 : Int32)), .unset, .unset, .unset, .unset, .unset, .unset, .unset, .unset] [])) _
      refine st48 _ ?_
      show Steps p.tables e below (T48.setTop (mkF m 37 #[.val (.int p1), .val (.long q2), .second, .val (.int p3), .val (.int p4), .val (.int p5), .val (.int cc), .val (.int (1 : Int32)), .unset, .unset, .unset, .unset, .unset, .unset, .unset, .unset] [(.ref w7)])) _
      refine XS.astore X48.here hx rfl (hb hby at_37) rfl rfl (l' := #[.val (.int p1), .val (.long q2), .second, .val (.int p3), .val (.int p4), .val (.int p5), .val (.int cc), .val (.int (1 : Int32)), .val (.ref w7), .unset, .unset, .unset, .unset, .unset, .unset, .unset]) rfl ?_
      refine XS.goto X48.here hx rfl (pc0 := 39) (pc' := 61) rfl (hb hby at_39) (by decide) (by decide) ?_
      show Steps p.tables e below (T48.setTop (mkF m 61 #[.val (.int p1), .val (.long q2), .second, .val (.int p3), .val (.int p4), .val (.int p5), .val (.int cc), .val (.int (1 : Int32)), .val (.ref w7), .unset, .unset, .unset, .unset, .unset, .unset, .unset] [])) _
      refine st49 _ ?_
      show Steps p.tables e below (T49.setTop (mkF m 64 #[.val (.int p1), .val (.long q2), .second, .val (.int p3), .val (.int p4), .val (.int p5), .val (.int cc), .val (.int (1 : Int32)), .val (.ref w7), .unset, .unset, .unset, .unset, .unset, .unset, .unset] [(.ref b49)])) _
      refine XS.dup X49.here hx rfl (hb hby at_64) rfl rfl ?_
      refine st50 _ ?_
      show Steps p.tables e below (T50.setTop (mkF m 67 #[.val (.int p1), .val (.long q2), .second, .val (.int p3), .val (.int p4), .val (.int p5), .val (.int cc), .val (.int (1 : Int32)), .val (.ref w7), .unset, .unset, .unset, .unset, .unset, .unset, .unset] [(.ref b50), (.ref b49), (.ref b49)])) _
      refine st51 _ ?_
      show Steps p.tables e below (T51.setTop (mkF m 69 #[.val (.int p1), .val (.long q2), .second, .val (.int p3), .val (.int p4), .val (.int p5), .val (.int cc), .val (.int (1 : Int32)), .val (.ref w7), .unset, .unset, .unset, .unset, .unset, .unset, .unset] [(.ref b51), (.ref b50), (.ref b49), (.ref b49)])) _
      refine st52 _ ?_
      show Steps p.tables e below (T52.setTop (mkF m 71 #[.val (.int p1), .val (.long q2), .second, .val (.int p3), .val (.int p4), .val (.int p5), .val (.int cc), .val (.int (1 : Int32)), .val (.ref w7), .unset, .unset, .unset, .unset, .unset, .unset, .unset] [(.ref b52), (.ref b51), (.ref b50), (.ref b49), (.ref b49)])) _
      refine XS.lconst X52.here hx rfl (hb hby at_71) ?_
      refine XS.iloadN X52.here hx rfl (hb hby at_72) rfl ?_
      show Steps p.tables e below (T52.setTop (mkF m 73 #[.val (.int p1), .val (.long q2), .second, .val (.int p3), .val (.int p4), .val (.int p5), .val (.int cc), .val (.int (1 : Int32)), .val (.ref w7), .unset, .unset, .unset, .unset, .unset, .unset, .unset] [(.int p3), (.long (0 : Int64)), (.ref b52), (.ref b51), (.ref b50), (.ref b49), (.ref b49)])) _
      refine st59.trans ?_
      show Steps p.tables e below (T59.setTop (mkF m 76 #[.val (.int p1), .val (.long q2), .second, .val (.int p3), .val (.int p4), .val (.int p5), .val (.int cc), .val (.int (1 : Int32)), .val (.ref w7), .unset, .unset, .unset, .unset, .unset, .unset, .unset] [(.ref b49)])) _
      refine XS.astore X59.here hx rfl (hb hby at_76) rfl rfl (l' := #[.val (.int p1), .val (.long q2), .second, .val (.int p3), .val (.int p4), .val (.int p5), .val (.int cc), .val (.int (1 : Int32)), .val (.ref w7), .val (.ref b49), .unset, .unset, .unset, .unset, .unset, .unset]) rfl ?_
      show Steps p.tables e below (T59.setTop (mkF m 78 #[.val (.int p1), .val (.long q2), .second, .val (.int p3), .val (.int p4), .val (.int p5), .val (.int cc), .val (.int (1 : Int32)), .val (.ref w7), .val (.ref b49), .unset, .unset, .unset, .unset, .unset, .unset] [])) _
      refine st60 _ ?_
      show Steps p.tables e below (T60.setTop (mkF m 81 #[.val (.int p1), .val (.long q2), .second, .val (.int p3), .val (.int p4), .val (.int p5), .val (.int cc), .val (.int (1 : Int32)), .val (.ref w7), .val (.ref b49), .unset, .unset, .unset, .unset, .unset, .unset] [(.ref b60)])) _
      refine XS.dup X60.here hx rfl (hb hby at_81) rfl rfl ?_
      refine XS.aload X60.here hx rfl (hb hby at_82) rfl rfl ?_
      refine XS.aload X60.here hx rfl (hb hby at_84) rfl rfl ?_
      show Steps p.tables e below (T60.setTop (mkF m 86 #[.val (.int p1), .val (.long q2), .second, .val (.int p3), .val (.int p4), .val (.int p5), .val (.int cc), .val (.int (1 : Int32)), .val (.ref w7), .val (.ref b49), .unset, .unset, .unset, .unset, .unset, .unset] [(.ref w7), (.ref b49), (.ref b60), (.ref b60)])) _
      refine XS.iload X60.here hx rfl (hb hby at_86) rfl ?_
      refine XS.aconstNull X60.here hx rfl (hb hby at_88) ?_
      show Steps p.tables e below (T60.setTop (mkF m 89 #[.val (.int p1), .val (.long q2), .second, .val (.int p3), .val (.int p4), .val (.int p5), .val (.int cc), .val (.int (1 : Int32)), .val (.ref w7), .val (.ref b49), .unset, .unset, .unset, .unset, .unset, .unset] [.null, (.int p4), (.ref w7), (.ref b49), (.ref b60), (.ref b60)])) _
      refine st62.trans ?_
      show Steps p.tables e below (T62.setTop (mkF m 92 #[.val (.int p1), .val (.long q2), .second, .val (.int p3), .val (.int p4), .val (.int p5), .val (.int cc), .val (.int (1 : Int32)), .val (.ref w7), .val (.ref b49), .unset, .unset, .unset, .unset, .unset, .unset] [(.ref b60)])) _
      refine XS.astore X62.here hx rfl (hb hby at_92) rfl rfl (l' := #[.val (.int p1), .val (.long q2), .second, .val (.int p3), .val (.int p4), .val (.int p5), .val (.int cc), .val (.int (1 : Int32)), .val (.ref w7), .val (.ref b49), .val (.ref b60), .unset, .unset, .unset, .unset, .unset]) rfl ?_
      show Steps p.tables e below (T62.setTop (mkF m 94 #[.val (.int p1), .val (.long q2), .second, .val (.int p3), .val (.int p4), .val (.int p5), .val (.int cc), .val (.int (1 : Int32)), .val (.ref w7), .val (.ref b49), .val (.ref b60), .unset, .unset, .unset, .unset, .unset] [])) _
      refine st63 _ ?_
      show Steps p.tables e below (T63.setTop (mkF m 97 #[.val (.int p1), .val (.long q2), .second, .val (.int p3), .val (.int p4), .val (.int p5), .val (.int cc), .val (.int (1 : Int32)), .val (.ref w7), .val (.ref b49), .val (.ref b60), .unset, .unset, .unset, .unset, .unset] [(.ref b63)])) _
      refine XS.dup X63.here hx rfl (hb hby at_97) rfl rfl ?_
      refine XS.iload X63.here hx rfl (hb hby at_98) rfl ?_
      refine XS.lloadN X63.here hx rfl (hb hby at_100) rfl ?_
      show Steps p.tables e below (T63.setTop (mkF m 101 #[.val (.int p1), .val (.long q2), .second, .val (.int p3), .val (.int p4), .val (.int p5), .val (.int cc), .val (.int (1 : Int32)), .val (.ref w7), .val (.ref b49), .val (.ref b60), .unset, .unset, .unset, .unset, .unset] [(.long q2), (.int cc), (.ref b63), (.ref b63)])) _
      refine st67.trans ?_
      show Steps p.tables e below (T67.setTop (mkF m 104 #[.val (.int p1), .val (.long q2), .second, .val (.int p3), .val (.int p4), .val (.int p5), .val (.int cc), .val (.int (1 : Int32)), .val (.ref w7), .val (.ref b49), .val (.ref b60), .unset, .unset, .unset, .unset, .unset] [(.ref b63)])) _
      refine XS.astore X67.here hx rfl (hb hby at_104) rfl rfl (l' := #[.val (.int p1), .val (.long q2), .second, .val (.int p3), .val (.int p4), .val (.int p5), .val (.int cc), .val (.int (1 : Int32)), .val (.ref w7), .val (.ref b49), .val (.ref b60), .val (.ref b63), .unset, .unset, .unset, .unset]) rfl ?_
      exact kt)
    by_cases hm : (0 : Int32) < p3
    · by_cases hl : p4 < p3
      · have f69 : Exa Z T67.heap b60 "com/example/runqueue/runqueue/Outcome" := ((P62_0.ext E63).keep K67)
        have f70 : Fld Z T67.heap b60 "com/example/runqueue/runqueue/Outcome" "state" "Lcom/example/runqueue/runqueue/Outcome$State;" (.ref w7) := ((P62_2.ext E63).keep K67 (ninS ne66 nin0))
        have f71 : Fld Z T67.heap b60 "com/example/runqueue/runqueue/Outcome" "job" "Lcom/example/runqueue/runqueue/Job;" (.ref b49) := ((P62_1.ext E63).keep K67 (ninS ne66 nin0))
        have f72 : Exa Z T67.heap b49 "com/example/runqueue/runqueue/Job" := ((f64.ext E63).keep K67)
        have f73 : Fld Z T67.heap b49 "com/example/runqueue/runqueue/Job" "maxAttempts" "I" (.int p3) := ((((P59_5.ext E60).keep K62 (ninS ne61 nin0)).ext E63).keep K67 (ninS ne65 nin0))
        have f74 : Fld Z T67.heap b60 "com/example/runqueue/runqueue/Outcome" "attempts" "I" (.int p4) := ((P62_3.ext E63).keep K67 (ninS ne66 nin0))
        obtain ⟨cq75, kq75, q75a, q75b, q75c⟩ := isOf hZ59 rfl P67_0
        obtain ⟨_, _, ⟨T75, L75, k75, n75⟩, -, X75, ⟨Lc75, hQ75, l75, y75, z75⟩, st75⟩ := X67.virtualBack hx (y := (⟨"com/example/runqueue/runqueue/Retries", "again", "(Lcom/example/runqueue/runqueue/Outcome;)Z"⟩ : MethodName)) (z := (⟨"com/example/runqueue/runqueue/Retries", "again", "(Lcom/example/runqueue/runqueue/Outcome;)Z"⟩ : MethodName)) hown59 (mvT hZ59 (hw _ (List.mem_of_getElem? (i := 69) rfl))) (mvT hZ59 (hw _ (List.mem_of_getElem? (i := 70) rfl))) (notFace_of_selects (args := #[]) (mvT hZ59 (hw _ (List.mem_of_getElem? (i := 72) rfl)))) (mvT hZ59 (hw _ (List.mem_of_getElem? (i := 72) rfl))) (mvT hZ59 (hw _ (List.mem_of_getElem? (i := 71) rfl))) (by decide) (backOf (W := 0) (rm7_2 l Z a0 hw [] b63 b60 w7 b49 p3 p4 T67.heap n0 O67 f69 f70 f71 f72 f73 hm S_FAILED f74 hl) hZ59 (hw _ (List.mem_of_getElem? (i := 73) rfl)) (hw _ (List.mem_of_getElem? (i := 60) rfl)) (by decide) (by decide)) q75a q75c (g := (mkF m 110 #[.val (.int p1), .val (.long q2), .second, .val (.int p3), .val (.int p4), .val (.int p5), .val (.int cc), .val (.int (1 : Int32)), .val (.ref w7), .val (.ref b49), .val (.ref b60), .val (.ref b63), .unset, .unset, .unset, .unset] [(.ref b60), (.ref b63)])) rfl (by rw [hml]; rfl) (Steps.refl _) (argsL := [(.ref b60)]) (rest := []) (lenOf pd_13 rfl) rfl (by show 2 * 0 + _ ≤ _; exact Nat.le_of_eq rfl) (hb hby at_110) (fun _ _ => ⟨rfl, rfl, (by decide : 15 + 0 ≤ _), (by decide : 99 + 0 ≤ _)⟩)
        dsimp only [Pt.U, Pt.locs, Pt.cells, Pt.slots] at X75 l75 y75 z75 st75 hQ75
        subst l75 y75 z75
        obtain ⟨rfl, Nq75, e75⟩ := hQ75
        have N75 := Fr.app N67 Nq75
        obtain ⟨fs, hr, hrun, hended, hREW⟩ := X75.leaveW (s := s) hS59 (by rw [e75]; exact (Nat.le_trans (Nat.le_trans (Nat.le_trans (Nat.le_trans (Nat.le_refl _) E60.1) K62.1) E63.1) K67.1)) (v := some (.int (1 : Int32))) (fun h => by rw [Bd.returns] at h; cases h)
        refine ⟨_, _, pre68 _ ?_, hrun, hended, _, _, rfl, ?_, hREW.1, hREW.2.1, hREW.2.2.1, hREW.2.2.2.mono (by decide) (by decide)⟩
        · show Steps p.tables e below (T67.setTop (mkF m 106 #[.val (.int p1), .val (.long q2), .second, .val (.int p3), .val (.int p4), .val (.int p5), .val (.int cc), .val (.int (1 : Int32)), .val (.ref w7), .val (.ref b49), .val (.ref b60), .val (.ref b63), .unset, .unset, .unset, .unset] [])) _
          refine XS.aload X67.here hx rfl (hb hby at_106) rfl rfl ?_
          refine XS.aload X67.here hx rfl (hb hby at_108) rfl rfl ?_
          show Steps p.tables e below (T67.setTop (mkF m 110 #[.val (.int p1), .val (.long q2), .second, .val (.int p3), .val (.int p4), .val (.int p5), .val (.int cc), .val (.int (1 : Int32)), .val (.ref w7), .val (.ref b49), .val (.ref b60), .val (.ref b63), .unset, .unset, .unset, .unset] [(.ref b60), (.ref b63)])) _
          refine st75.trans ?_
          show Steps p.tables e below (T75.setTop (mkF m 113 #[.val (.int p1), .val (.long q2), .second, .val (.int p3), .val (.int p4), .val (.int p5), .val (.int cc), .val (.int (1 : Int32)), .val (.ref w7), .val (.ref b49), .val (.ref b60), .val (.ref b63), .unset, .unset, .unset, .unset] [(.int (1 : Int32))])) _
          refine XS.istore X75.here hx rfl (hb hby at_113) rfl (l' := #[.val (.int p1), .val (.long q2), .second, .val (.int p3), .val (.int p4), .val (.int p5), .val (.int cc), .val (.int (1 : Int32)), .val (.ref w7), .val (.ref b49), .val (.ref b60), .val (.ref b63), .val (.int (1 : Int32)), .unset, .unset, .unset]) rfl ?_
          refine XS.iload X75.here hx rfl (hb hby at_115) rfl ?_
          refine XS.iconst X75.here hx rfl (hb hby at_117) ?_
          show Steps p.tables e below (T75.setTop (mkF m 118 #[.val (.int p1), .val (.long q2), .second, .val (.int p3), .val (.int p4), .val (.int p5), .val (.int cc), .val (.int (1 : Int32)), .val (.ref w7), .val (.ref b49), .val (.ref b60), .val (.ref b63), .val (.int (1 : Int32)), .unset, .unset, .unset] [(.int (1 : Int32)), (.int (1 : Int32))])) _
          refine XS.icmpYes X75.here hx rfl (pc0 := 118) (pc' := 127) rfl (hb hby at_118) rfl (teq ((by decide) : (1 : Int32) = (1 : Int32))).1 (by decide) (by decide) ?_
          refine XS.iconst X75.here hx rfl (hb hby at_127) ?_
          refine XS.goto X75.here hx rfl (pc0 := 128) (pc' := 132) rfl (hb hby at_128) (by decide) (by decide) ?_
          show Steps p.tables e below (T75.setTop (mkF m 132 #[.val (.int p1), .val (.long q2), .second, .val (.int p3), .val (.int p4), .val (.int p5), .val (.int cc), .val (.int (1 : Int32)), .val (.ref w7), .val (.ref b49), .val (.ref b60), .val (.ref b63), .val (.int (1 : Int32)), .unset, .unset, .unset] [(.int (1 : Int32))])) _
          refine XS.istore X75.here hx rfl (hb hby at_132) rfl (l' := #[.val (.int p1), .val (.long q2), .second, .val (.int p3), .val (.int p4), .val (.int p5), .val (.int cc), .val (.int (1 : Int32)), .val (.ref w7), .val (.ref b49), .val (.ref b60), .val (.ref b63), .val (.int (1 : Int32)), .val (.int (1 : Int32)), .unset, .unset]) rfl ?_
          refine XS.iloadN X75.here hx rfl (hb hby at_134) rfl ?_
          show Steps p.tables e below (T75.setTop (mkF m 135 #[.val (.int p1), .val (.long q2), .second, .val (.int p3), .val (.int p4), .val (.int p5), .val (.int cc), .val (.int (1 : Int32)), .val (.ref w7), .val (.ref b49), .val (.ref b60), .val (.ref b63), .val (.int (1 : Int32)), .val (.int (1 : Int32)), .unset, .unset] [(.int p3)])) _
          refine XS.ifNo X75.here hx rfl (hb hby at_135) rfl ((if0 _ _).trans (tlt (hm : (0 : Int32) < p3)).2.2.2) ?_
          refine XS.iload X75.here hx rfl (hb hby at_138) rfl ?_
          refine XS.iloadN X75.here hx rfl (hb hby at_140) rfl ?_
          show Steps p.tables e below (T75.setTop (mkF m 141 #[.val (.int p1), .val (.long q2), .second, .val (.int p3), .val (.int p4), .val (.int p5), .val (.int cc), .val (.int (1 : Int32)), .val (.ref w7), .val (.ref b49), .val (.ref b60), .val (.ref b63), .val (.int (1 : Int32)), .val (.int (1 : Int32)), .unset, .unset] [(.int p3), (.int p4)])) _
          refine XS.icmpNo X75.here hx rfl (hb hby at_141) rfl (tlt (hl : p4 < p3)).2.1 ?_
          refine XS.iconst X75.here hx rfl (hb hby at_144) ?_
          refine XS.goto X75.here hx rfl (pc0 := 145) (pc' := 149) rfl (hb hby at_145) (by decide) (by decide) ?_
          show Steps p.tables e below (T75.setTop (mkF m 149 #[.val (.int p1), .val (.long q2), .second, .val (.int p3), .val (.int p4), .val (.int p5), .val (.int cc), .val (.int (1 : Int32)), .val (.ref w7), .val (.ref b49), .val (.ref b60), .val (.ref b63), .val (.int (1 : Int32)), .val (.int (1 : Int32)), .unset, .unset] [(.int (1 : Int32))])) _
          refine XS.istore X75.here hx rfl (hb hby at_149) rfl (l' := #[.val (.int p1), .val (.long q2), .second, .val (.int p3), .val (.int p4), .val (.int p5), .val (.int cc), .val (.int (1 : Int32)), .val (.ref w7), .val (.ref b49), .val (.ref b60), .val (.ref b63), .val (.int (1 : Int32)), .val (.int (1 : Int32)), .val (.int (1 : Int32)), .unset]) rfl ?_
          refine XS.goto X75.here hx rfl (pc0 := 151) (pc' := 168) rfl (hb hby at_151) (by decide) (by decide) ?_
          refine XS.iload X75.here hx rfl (hb hby at_168) rfl ?_
          show Steps p.tables e below (T75.setTop (mkF m 170 #[.val (.int p1), .val (.long q2), .second, .val (.int p3), .val (.int p4), .val (.int p5), .val (.int cc), .val (.int (1 : Int32)), .val (.ref w7), .val (.ref b49), .val (.ref b60), .val (.ref b63), .val (.int (1 : Int32)), .val (.int (1 : Int32)), .val (.int (1 : Int32)), .unset] [(.int (1 : Int32))])) _
          refine XS.ifNo X75.here hx rfl (hb hby at_170) rfl ((if0 _ _).trans (feq ((by decide) : ¬ ((1 : Int32) = (0 : Int32)))).1) ?_
          refine XS.iload X75.here hx rfl (hb hby at_173) rfl ?_
          show Steps p.tables e below (T75.setTop (mkF m 175 #[.val (.int p1), .val (.long q2), .second, .val (.int p3), .val (.int p4), .val (.int p5), .val (.int cc), .val (.int (1 : Int32)), .val (.ref w7), .val (.ref b49), .val (.ref b60), .val (.ref b63), .val (.int (1 : Int32)), .val (.int (1 : Int32)), .val (.int (1 : Int32)), .unset] [(.int (1 : Int32))])) _
          refine XS.ifNo X75.here hx rfl (hb hby at_175) rfl ((if0 _ _).trans (feq ((by decide) : ¬ ((1 : Int32) = (0 : Int32)))).1) ?_
          refine XS.iconst X75.here hx rfl (hb hby at_178) ?_
          refine XS.goto X75.here hx rfl (pc0 := 179) (pc' := 183) rfl (hb hby at_179) (by decide) (by decide) ?_
          show Steps p.tables e below (T75.setTop (mkF m 183 #[.val (.int p1), .val (.long q2), .second, .val (.int p3), .val (.int p4), .val (.int p5), .val (.int cc), .val (.int (1 : Int32)), .val (.ref w7), .val (.ref b49), .val (.ref b60), .val (.ref b63), .val (.int (1 : Int32)), .val (.int (1 : Int32)), .val (.int (1 : Int32)), .unset] [(.int (1 : Int32))])) _
          refine XS.istore X75.here hx rfl (hb hby at_183) rfl (l' := #[.val (.int p1), .val (.long q2), .second, .val (.int p3), .val (.int p4), .val (.int p5), .val (.int cc), .val (.int (1 : Int32)), .val (.ref w7), .val (.ref b49), .val (.ref b60), .val (.ref b63), .val (.int (1 : Int32)), .val (.int (1 : Int32)), .val (.int (1 : Int32)), .val (.int (1 : Int32))]) rfl ?_
          refine XS.iload X75.here hx rfl (hb hby at_185) rfl ?_
          refine XS.iload X75.here hx rfl (hb hby at_187) rfl ?_
          show Steps p.tables e below (T75.setTop (mkF m 189 #[.val (.int p1), .val (.long q2), .second, .val (.int p3), .val (.int p4), .val (.int p5), .val (.int cc), .val (.int (1 : Int32)), .val (.ref w7), .val (.ref b49), .val (.ref b60), .val (.ref b63), .val (.int (1 : Int32)), .val (.int (1 : Int32)), .val (.int (1 : Int32)), .val (.int (1 : Int32))] [(.int (1 : Int32)), (.int (1 : Int32))])) _
          refine XS.icmpNo X75.here hx rfl (hb hby at_189) rfl (teq ((by decide) : (1 : Int32) = (1 : Int32))).2 ?_
          refine XS.iconst X75.here hx rfl (hb hby at_192) ?_
          refine XS.goto X75.here hx rfl (pc0 := 193) (pc' := 197) rfl (hb hby at_193) (by decide) (by decide) ?_
          show Steps p.tables e below (T75.setTop (mkF m 197 #[.val (.int p1), .val (.long q2), .second, .val (.int p3), .val (.int p4), .val (.int p5), .val (.int cc), .val (.int (1 : Int32)), .val (.ref w7), .val (.ref b49), .val (.ref b60), .val (.ref b63), .val (.int (1 : Int32)), .val (.int (1 : Int32)), .val (.int (1 : Int32)), .val (.int (1 : Int32))] [(.int (1 : Int32))])) _
          exact retN X75 hx (t := .boolean) Bd.returns (by simp) (hb hby at_197) hr
        · show Qrm0 Z p1 q2 p3 p4 p5 w6 w7 w8 w9 h0 n0 _ T75.heap _
          exact ⟨rfl, N75⟩
      · have f76 : Exa Z T67.heap b60 "com/example/runqueue/runqueue/Outcome" := ((P62_0.ext E63).keep K67)
        have f77 : Fld Z T67.heap b60 "com/example/runqueue/runqueue/Outcome" "state" "Lcom/example/runqueue/runqueue/Outcome$State;" (.ref w7) := ((P62_2.ext E63).keep K67 (ninS ne66 nin0))
        have f78 : Fld Z T67.heap b60 "com/example/runqueue/runqueue/Outcome" "job" "Lcom/example/runqueue/runqueue/Job;" (.ref b49) := ((P62_1.ext E63).keep K67 (ninS ne66 nin0))
        have f79 : Exa Z T67.heap b49 "com/example/runqueue/runqueue/Job" := ((f64.ext E63).keep K67)
        have f80 : Fld Z T67.heap b49 "com/example/runqueue/runqueue/Job" "maxAttempts" "I" (.int p3) := ((((P59_5.ext E60).keep K62 (ninS ne61 nin0)).ext E63).keep K67 (ninS ne65 nin0))
        have f81 : Fld Z T67.heap b60 "com/example/runqueue/runqueue/Outcome" "attempts" "I" (.int p4) := ((P62_3.ext E63).keep K67 (ninS ne66 nin0))
        obtain ⟨cq82, kq82, q82a, q82b, q82c⟩ := isOf hZ59 rfl P67_0
        obtain ⟨_, _, ⟨T82, L82, k82, n82⟩, -, X82, ⟨Lc82, hQ82, l82, y82, z82⟩, st82⟩ := X67.virtualBack hx (y := (⟨"com/example/runqueue/runqueue/Retries", "again", "(Lcom/example/runqueue/runqueue/Outcome;)Z"⟩ : MethodName)) (z := (⟨"com/example/runqueue/runqueue/Retries", "again", "(Lcom/example/runqueue/runqueue/Outcome;)Z"⟩ : MethodName)) hown59 (mvT hZ59 (hw _ (List.mem_of_getElem? (i := 69) rfl))) (mvT hZ59 (hw _ (List.mem_of_getElem? (i := 70) rfl))) (notFace_of_selects (args := #[]) (mvT hZ59 (hw _ (List.mem_of_getElem? (i := 72) rfl)))) (mvT hZ59 (hw _ (List.mem_of_getElem? (i := 72) rfl))) (mvT hZ59 (hw _ (List.mem_of_getElem? (i := 71) rfl))) (by decide) (backOf (W := 0) (rm7_3 l Z a0 hw [] b63 b60 w7 b49 p3 p4 T67.heap n0 O67 f76 f77 f78 f79 f80 hm S_FAILED f81 hl) hZ59 (hw _ (List.mem_of_getElem? (i := 73) rfl)) (hw _ (List.mem_of_getElem? (i := 60) rfl)) (by decide) (by decide)) q82a q82c (g := (mkF m 110 #[.val (.int p1), .val (.long q2), .second, .val (.int p3), .val (.int p4), .val (.int p5), .val (.int cc), .val (.int (1 : Int32)), .val (.ref w7), .val (.ref b49), .val (.ref b60), .val (.ref b63), .unset, .unset, .unset, .unset] [(.ref b60), (.ref b63)])) rfl (by rw [hml]; rfl) (Steps.refl _) (argsL := [(.ref b60)]) (rest := []) (lenOf pd_13 rfl) rfl (by show 2 * 0 + _ ≤ _; exact Nat.le_of_eq rfl) (hb hby at_110) (fun _ _ => ⟨rfl, rfl, (by decide : 15 + 0 ≤ _), (by decide : 99 + 0 ≤ _)⟩)
        dsimp only [Pt.U, Pt.locs, Pt.cells, Pt.slots] at X82 l82 y82 z82 st82 hQ82
        subst l82 y82 z82
        obtain ⟨rfl, Nq82, e82⟩ := hQ82
        have N82 := Fr.app N67 Nq82
        obtain ⟨fs, hr, hrun, hended, hREW⟩ := X82.leaveW (s := s) hS59 (by rw [e82]; exact (Nat.le_trans (Nat.le_trans (Nat.le_trans (Nat.le_trans (Nat.le_refl _) E60.1) K62.1) E63.1) K67.1)) (v := some (.int (1 : Int32))) (fun h => by rw [Bd.returns] at h; cases h)
        refine ⟨_, _, pre68 _ ?_, hrun, hended, _, _, rfl, ?_, hREW.1, hREW.2.1, hREW.2.2.1, hREW.2.2.2.mono (by decide) (by decide)⟩
        · show Steps p.tables e below (T67.setTop (mkF m 106 #[.val (.int p1), .val (.long q2), .second, .val (.int p3), .val (.int p4), .val (.int p5), .val (.int cc), .val (.int (1 : Int32)), .val (.ref w7), .val (.ref b49), .val (.ref b60), .val (.ref b63), .unset, .unset, .unset, .unset] [])) _
          refine XS.aload X67.here hx rfl (hb hby at_106) rfl rfl ?_
          refine XS.aload X67.here hx rfl (hb hby at_108) rfl rfl ?_
          show Steps p.tables e below (T67.setTop (mkF m 110 #[.val (.int p1), .val (.long q2), .second, .val (.int p3), .val (.int p4), .val (.int p5), .val (.int cc), .val (.int (1 : Int32)), .val (.ref w7), .val (.ref b49), .val (.ref b60), .val (.ref b63), .unset, .unset, .unset, .unset] [(.ref b60), (.ref b63)])) _
          refine st82.trans ?_
          show Steps p.tables e below (T82.setTop (mkF m 113 #[.val (.int p1), .val (.long q2), .second, .val (.int p3), .val (.int p4), .val (.int p5), .val (.int cc), .val (.int (1 : Int32)), .val (.ref w7), .val (.ref b49), .val (.ref b60), .val (.ref b63), .unset, .unset, .unset, .unset] [(.int (0 : Int32))])) _
          refine XS.istore X82.here hx rfl (hb hby at_113) rfl (l' := #[.val (.int p1), .val (.long q2), .second, .val (.int p3), .val (.int p4), .val (.int p5), .val (.int cc), .val (.int (1 : Int32)), .val (.ref w7), .val (.ref b49), .val (.ref b60), .val (.ref b63), .val (.int (0 : Int32)), .unset, .unset, .unset]) rfl ?_
          refine XS.iload X82.here hx rfl (hb hby at_115) rfl ?_
          refine XS.iconst X82.here hx rfl (hb hby at_117) ?_
          show Steps p.tables e below (T82.setTop (mkF m 118 #[.val (.int p1), .val (.long q2), .second, .val (.int p3), .val (.int p4), .val (.int p5), .val (.int cc), .val (.int (1 : Int32)), .val (.ref w7), .val (.ref b49), .val (.ref b60), .val (.ref b63), .val (.int (0 : Int32)), .unset, .unset, .unset] [(.int (1 : Int32)), (.int (1 : Int32))])) _
          refine XS.icmpYes X82.here hx rfl (pc0 := 118) (pc' := 127) rfl (hb hby at_118) rfl (teq ((by decide) : (1 : Int32) = (1 : Int32))).1 (by decide) (by decide) ?_
          refine XS.iconst X82.here hx rfl (hb hby at_127) ?_
          refine XS.goto X82.here hx rfl (pc0 := 128) (pc' := 132) rfl (hb hby at_128) (by decide) (by decide) ?_
          show Steps p.tables e below (T82.setTop (mkF m 132 #[.val (.int p1), .val (.long q2), .second, .val (.int p3), .val (.int p4), .val (.int p5), .val (.int cc), .val (.int (1 : Int32)), .val (.ref w7), .val (.ref b49), .val (.ref b60), .val (.ref b63), .val (.int (0 : Int32)), .unset, .unset, .unset] [(.int (1 : Int32))])) _
          refine XS.istore X82.here hx rfl (hb hby at_132) rfl (l' := #[.val (.int p1), .val (.long q2), .second, .val (.int p3), .val (.int p4), .val (.int p5), .val (.int cc), .val (.int (1 : Int32)), .val (.ref w7), .val (.ref b49), .val (.ref b60), .val (.ref b63), .val (.int (0 : Int32)), .val (.int (1 : Int32)), .unset, .unset]) rfl ?_
          refine XS.iloadN X82.here hx rfl (hb hby at_134) rfl ?_
          show Steps p.tables e below (T82.setTop (mkF m 135 #[.val (.int p1), .val (.long q2), .second, .val (.int p3), .val (.int p4), .val (.int p5), .val (.int cc), .val (.int (1 : Int32)), .val (.ref w7), .val (.ref b49), .val (.ref b60), .val (.ref b63), .val (.int (0 : Int32)), .val (.int (1 : Int32)), .unset, .unset] [(.int p3)])) _
          refine XS.ifNo X82.here hx rfl (hb hby at_135) rfl ((if0 _ _).trans (tlt (hm : (0 : Int32) < p3)).2.2.2) ?_
          refine XS.iload X82.here hx rfl (hb hby at_138) rfl ?_
          refine XS.iloadN X82.here hx rfl (hb hby at_140) rfl ?_
          show Steps p.tables e below (T82.setTop (mkF m 141 #[.val (.int p1), .val (.long q2), .second, .val (.int p3), .val (.int p4), .val (.int p5), .val (.int cc), .val (.int (1 : Int32)), .val (.ref w7), .val (.ref b49), .val (.ref b60), .val (.ref b63), .val (.int (0 : Int32)), .val (.int (1 : Int32)), .unset, .unset] [(.int p3), (.int p4)])) _
          refine XS.icmpYes X82.here hx rfl (pc0 := 141) (pc' := 148) rfl (hb hby at_141) rfl (flt (hl : ¬ (p4 < p3))).2.1 (by decide) (by decide) ?_
          refine XS.iconst X82.here hx rfl (hb hby at_148) ?_
          refine XS.istore X82.here hx rfl (hb hby at_149) rfl (l' := #[.val (.int p1), .val (.long q2), .second, .val (.int p3), .val (.int p4), .val (.int p5), .val (.int cc), .val (.int (1 : Int32)), .val (.ref w7), .val (.ref b49), .val (.ref b60), .val (.ref b63), .val (.int (0 : Int32)), .val (.int (1 : Int32)), .val (.int (0 : Int32)), .unset]) rfl ?_
          show Steps p.tables e below (T82.setTop (mkF m 151 #[.val (.int p1), .val (.long q2), .second, .val (.int p3), .val (.int p4), .val (.int p5), .val (.int cc), .val (.int (1 : Int32)), .val (.ref w7), .val (.ref b49), .val (.ref b60), .val (.ref b63), .val (.int (0 : Int32)), .val (.int (1 : Int32)), .val (.int (0 : Int32)), .unset] [])) _
          refine XS.goto X82.here hx rfl (pc0 := 151) (pc' := 168) rfl (hb hby at_151) (by decide) (by decide) ?_
          refine XS.iload X82.here hx rfl (hb hby at_168) rfl ?_
          show Steps p.tables e below (T82.setTop (mkF m 170 #[.val (.int p1), .val (.long q2), .second, .val (.int p3), .val (.int p4), .val (.int p5), .val (.int cc), .val (.int (1 : Int32)), .val (.ref w7), .val (.ref b49), .val (.ref b60), .val (.ref b63), .val (.int (0 : Int32)), .val (.int (1 : Int32)), .val (.int (0 : Int32)), .unset] [(.int (1 : Int32))])) _
          refine XS.ifNo X82.here hx rfl (hb hby at_170) rfl ((if0 _ _).trans (feq ((by decide) : ¬ ((1 : Int32) = (0 : Int32)))).1) ?_
          refine XS.iload X82.here hx rfl (hb hby at_173) rfl ?_
          show Steps p.tables e below (T82.setTop (mkF m 175 #[.val (.int p1), .val (.long q2), .second, .val (.int p3), .val (.int p4), .val (.int p5), .val (.int cc), .val (.int (1 : Int32)), .val (.ref w7), .val (.ref b49), .val (.ref b60), .val (.ref b63), .val (.int (0 : Int32)), .val (.int (1 : Int32)), .val (.int (0 : Int32)), .unset] [(.int (0 : Int32))])) _
          refine XS.ifYes X82.here hx rfl (pc0 := 175) (pc' := 182) rfl (hb hby at_175) rfl ((if0 _ _).trans (teq ((by decide) : (0 : Int32) = (0 : Int32))).1) (by decide) (by decide) ?_
          refine XS.iconst X82.here hx rfl (hb hby at_182) ?_
          refine XS.istore X82.here hx rfl (hb hby at_183) rfl (l' := #[.val (.int p1), .val (.long q2), .second, .val (.int p3), .val (.int p4), .val (.int p5), .val (.int cc), .val (.int (1 : Int32)), .val (.ref w7), .val (.ref b49), .val (.ref b60), .val (.ref b63), .val (.int (0 : Int32)), .val (.int (1 : Int32)), .val (.int (0 : Int32)), .val (.int (0 : Int32))]) rfl ?_
          show Steps p.tables e below (T82.setTop (mkF m 185 #[.val (.int p1), .val (.long q2), .second, .val (.int p3), .val (.int p4), .val (.int p5), .val (.int cc), .val (.int (1 : Int32)), .val (.ref w7), .val (.ref b49), .val (.ref b60), .val (.ref b63), .val (.int (0 : Int32)), .val (.int (1 : Int32)), .val (.int (0 : Int32)), .val (.int (0 : Int32))] [])) _
          refine XS.iload X82.here hx rfl (hb hby at_185) rfl ?_
          refine XS.iload X82.here hx rfl (hb hby at_187) rfl ?_
          show Steps p.tables e below (T82.setTop (mkF m 189 #[.val (.int p1), .val (.long q2), .second, .val (.int p3), .val (.int p4), .val (.int p5), .val (.int cc), .val (.int (1 : Int32)), .val (.ref w7), .val (.ref b49), .val (.ref b60), .val (.ref b63), .val (.int (0 : Int32)), .val (.int (1 : Int32)), .val (.int (0 : Int32)), .val (.int (0 : Int32))] [(.int (0 : Int32)), (.int (0 : Int32))])) _
          refine XS.icmpNo X82.here hx rfl (hb hby at_189) rfl (teq ((by decide) : (0 : Int32) = (0 : Int32))).2 ?_
          refine XS.iconst X82.here hx rfl (hb hby at_192) ?_
          refine XS.goto X82.here hx rfl (pc0 := 193) (pc' := 197) rfl (hb hby at_193) (by decide) (by decide) ?_
          show Steps p.tables e below (T82.setTop (mkF m 197 #[.val (.int p1), .val (.long q2), .second, .val (.int p3), .val (.int p4), .val (.int p5), .val (.int cc), .val (.int (1 : Int32)), .val (.ref w7), .val (.ref b49), .val (.ref b60), .val (.ref b63), .val (.int (0 : Int32)), .val (.int (1 : Int32)), .val (.int (0 : Int32)), .val (.int (0 : Int32))] [(.int (1 : Int32))])) _
          exact retN X82 hx (t := .boolean) Bd.returns (by simp) (hb hby at_197) hr
        · show Qrm0 Z p1 q2 p3 p4 p5 w6 w7 w8 w9 h0 n0 _ T82.heap _
          exact ⟨rfl, N82⟩
    · by_cases hl : p4 < ((1 : Int32) + cc)
      · have f83 : Exa Z T67.heap b60 "com/example/runqueue/runqueue/Outcome" := ((P62_0.ext E63).keep K67)
        have f84 : Fld Z T67.heap b60 "com/example/runqueue/runqueue/Outcome" "state" "Lcom/example/runqueue/runqueue/Outcome$State;" (.ref w7) := ((P62_2.ext E63).keep K67 (ninS ne66 nin0))
        have f85 : Fld Z T67.heap b60 "com/example/runqueue/runqueue/Outcome" "job" "Lcom/example/runqueue/runqueue/Job;" (.ref b49) := ((P62_1.ext E63).keep K67 (ninS ne66 nin0))
        have f86 : Exa Z T67.heap b49 "com/example/runqueue/runqueue/Job" := ((f64.ext E63).keep K67)
        have f87 : Fld Z T67.heap b49 "com/example/runqueue/runqueue/Job" "maxAttempts" "I" (.int p3) := ((((P59_5.ext E60).keep K62 (ninS ne61 nin0)).ext E63).keep K67 (ninS ne65 nin0))
        have f88 : Fld Z T67.heap b60 "com/example/runqueue/runqueue/Outcome" "attempts" "I" (.int p4) := ((P62_3.ext E63).keep K67 (ninS ne66 nin0))
        obtain ⟨cq89, kq89, q89a, q89b, q89c⟩ := isOf hZ59 rfl P67_0
        obtain ⟨_, _, ⟨T89, L89, k89, n89⟩, -, X89, ⟨Lc89, hQ89, l89, y89, z89⟩, st89⟩ := X67.virtualBack hx (y := (⟨"com/example/runqueue/runqueue/Retries", "again", "(Lcom/example/runqueue/runqueue/Outcome;)Z"⟩ : MethodName)) (z := (⟨"com/example/runqueue/runqueue/Retries", "again", "(Lcom/example/runqueue/runqueue/Outcome;)Z"⟩ : MethodName)) hown59 (mvT hZ59 (hw _ (List.mem_of_getElem? (i := 69) rfl))) (mvT hZ59 (hw _ (List.mem_of_getElem? (i := 70) rfl))) (notFace_of_selects (args := #[]) (mvT hZ59 (hw _ (List.mem_of_getElem? (i := 72) rfl)))) (mvT hZ59 (hw _ (List.mem_of_getElem? (i := 72) rfl))) (mvT hZ59 (hw _ (List.mem_of_getElem? (i := 71) rfl))) (by decide) (backOf (W := 0) (rm7_4 l Z a0 hw [] b63 b60 w7 b49 p3 cc p4 T67.heap n0 O67 f83 f84 f85 f86 f87 hm P67_1 S_FAILED f88 hl) hZ59 (hw _ (List.mem_of_getElem? (i := 73) rfl)) (hw _ (List.mem_of_getElem? (i := 60) rfl)) (by decide) (by decide)) q89a q89c (g := (mkF m 110 #[.val (.int p1), .val (.long q2), .second, .val (.int p3), .val (.int p4), .val (.int p5), .val (.int cc), .val (.int (1 : Int32)), .val (.ref w7), .val (.ref b49), .val (.ref b60), .val (.ref b63), .unset, .unset, .unset, .unset] [(.ref b60), (.ref b63)])) rfl (by rw [hml]; rfl) (Steps.refl _) (argsL := [(.ref b60)]) (rest := []) (lenOf pd_13 rfl) rfl (by show 2 * 0 + _ ≤ _; exact Nat.le_of_eq rfl) (hb hby at_110) (fun _ _ => ⟨rfl, rfl, (by decide : 15 + 0 ≤ _), (by decide : 99 + 0 ≤ _)⟩)
        dsimp only [Pt.U, Pt.locs, Pt.cells, Pt.slots] at X89 l89 y89 z89 st89 hQ89
        subst l89 y89 z89
        obtain ⟨rfl, Nq89, e89⟩ := hQ89
        have N89 := Fr.app N67 Nq89
        obtain ⟨fs, hr, hrun, hended, hREW⟩ := X89.leaveW (s := s) hS59 (by rw [e89]; exact (Nat.le_trans (Nat.le_trans (Nat.le_trans (Nat.le_trans (Nat.le_refl _) E60.1) K62.1) E63.1) K67.1)) (v := some (.int (1 : Int32))) (fun h => by rw [Bd.returns] at h; cases h)
        refine ⟨_, _, pre68 _ ?_, hrun, hended, _, _, rfl, ?_, hREW.1, hREW.2.1, hREW.2.2.1, hREW.2.2.2.mono (by decide) (by decide)⟩
        · show Steps p.tables e below (T67.setTop (mkF m 106 #[.val (.int p1), .val (.long q2), .second, .val (.int p3), .val (.int p4), .val (.int p5), .val (.int cc), .val (.int (1 : Int32)), .val (.ref w7), .val (.ref b49), .val (.ref b60), .val (.ref b63), .unset, .unset, .unset, .unset] [])) _
          refine XS.aload X67.here hx rfl (hb hby at_106) rfl rfl ?_
          refine XS.aload X67.here hx rfl (hb hby at_108) rfl rfl ?_
          show Steps p.tables e below (T67.setTop (mkF m 110 #[.val (.int p1), .val (.long q2), .second, .val (.int p3), .val (.int p4), .val (.int p5), .val (.int cc), .val (.int (1 : Int32)), .val (.ref w7), .val (.ref b49), .val (.ref b60), .val (.ref b63), .unset, .unset, .unset, .unset] [(.ref b60), (.ref b63)])) _
          refine st89.trans ?_
          show Steps p.tables e below (T89.setTop (mkF m 113 #[.val (.int p1), .val (.long q2), .second, .val (.int p3), .val (.int p4), .val (.int p5), .val (.int cc), .val (.int (1 : Int32)), .val (.ref w7), .val (.ref b49), .val (.ref b60), .val (.ref b63), .unset, .unset, .unset, .unset] [(.int (1 : Int32))])) _
          refine XS.istore X89.here hx rfl (hb hby at_113) rfl (l' := #[.val (.int p1), .val (.long q2), .second, .val (.int p3), .val (.int p4), .val (.int p5), .val (.int cc), .val (.int (1 : Int32)), .val (.ref w7), .val (.ref b49), .val (.ref b60), .val (.ref b63), .val (.int (1 : Int32)), .unset, .unset, .unset]) rfl ?_
          refine XS.iload X89.here hx rfl (hb hby at_115) rfl ?_
          refine XS.iconst X89.here hx rfl (hb hby at_117) ?_
          show Steps p.tables e below (T89.setTop (mkF m 118 #[.val (.int p1), .val (.long q2), .second, .val (.int p3), .val (.int p4), .val (.int p5), .val (.int cc), .val (.int (1 : Int32)), .val (.ref w7), .val (.ref b49), .val (.ref b60), .val (.ref b63), .val (.int (1 : Int32)), .unset, .unset, .unset] [(.int (1 : Int32)), (.int (1 : Int32))])) _
          refine XS.icmpYes X89.here hx rfl (pc0 := 118) (pc' := 127) rfl (hb hby at_118) rfl (teq ((by decide) : (1 : Int32) = (1 : Int32))).1 (by decide) (by decide) ?_
          refine XS.iconst X89.here hx rfl (hb hby at_127) ?_
          refine XS.goto X89.here hx rfl (pc0 := 128) (pc' := 132) rfl (hb hby at_128) (by decide) (by decide) ?_
          show Steps p.tables e below (T89.setTop (mkF m 132 #[.val (.int p1), .val (.long q2), .second, .val (.int p3), .val (.int p4), .val (.int p5), .val (.int cc), .val (.int (1 : Int32)), .val (.ref w7), .val (.ref b49), .val (.ref b60), .val (.ref b63), .val (.int (1 : Int32)), .unset, .unset, .unset] [(.int (1 : Int32))])) _
          refine XS.istore X89.here hx rfl (hb hby at_132) rfl (l' := #[.val (.int p1), .val (.long q2), .second, .val (.int p3), .val (.int p4), .val (.int p5), .val (.int cc), .val (.int (1 : Int32)), .val (.ref w7), .val (.ref b49), .val (.ref b60), .val (.ref b63), .val (.int (1 : Int32)), .val (.int (1 : Int32)), .unset, .unset]) rfl ?_
          refine XS.iloadN X89.here hx rfl (hb hby at_134) rfl ?_
          show Steps p.tables e below (T89.setTop (mkF m 135 #[.val (.int p1), .val (.long q2), .second, .val (.int p3), .val (.int p4), .val (.int p5), .val (.int cc), .val (.int (1 : Int32)), .val (.ref w7), .val (.ref b49), .val (.ref b60), .val (.ref b63), .val (.int (1 : Int32)), .val (.int (1 : Int32)), .unset, .unset] [(.int p3)])) _
          refine XS.ifYes X89.here hx rfl (pc0 := 135) (pc' := 154) rfl (hb hby at_135) rfl ((if0 _ _).trans (flt (hm : ¬ ((0 : Int32) < p3))).2.2.2) (by decide) (by decide) ?_
          refine XS.iload X89.here hx rfl (hb hby at_154) rfl ?_
          refine XS.iload X89.here hx rfl (hb hby at_156) rfl ?_
          show Steps p.tables e below (T89.setTop (mkF m 158 #[.val (.int p1), .val (.long q2), .second, .val (.int p3), .val (.int p4), .val (.int p5), .val (.int cc), .val (.int (1 : Int32)), .val (.ref w7), .val (.ref b49), .val (.ref b60), .val (.ref b63), .val (.int (1 : Int32)), .val (.int (1 : Int32)), .unset, .unset] [(.int cc), (.int p4)])) _
          refine XS.icmpNo X89.here hx rfl (hb hby at_158) rfl (flt (((own_lim p1 p4 cc h_cc).mp hl) : ¬ (cc < p4))).2.2.1 ?_
          refine XS.iconst X89.here hx rfl (hb hby at_161) ?_
          refine XS.goto X89.here hx rfl (pc0 := 162) (pc' := 166) rfl (hb hby at_162) (by decide) (by decide) ?_
          show Steps p.tables e below (T89.setTop (mkF m 166 #[.val (.int p1), .val (.long q2), .second, .val (.int p3), .val (.int p4), .val (.int p5), .val (.int cc), .val (.int (1 : Int32)), .val (.ref w7), .val (.ref b49), .val (.ref b60), .val (.ref b63), .val (.int (1 : Int32)), .val (.int (1 : Int32)), .unset, .unset] [(.int (1 : Int32))])) _
          refine XS.istore X89.here hx rfl (hb hby at_166) rfl (l' := #[.val (.int p1), .val (.long q2), .second, .val (.int p3), .val (.int p4), .val (.int p5), .val (.int cc), .val (.int (1 : Int32)), .val (.ref w7), .val (.ref b49), .val (.ref b60), .val (.ref b63), .val (.int (1 : Int32)), .val (.int (1 : Int32)), .val (.int (1 : Int32)), .unset]) rfl ?_
          refine XS.iload X89.here hx rfl (hb hby at_168) rfl ?_
          show Steps p.tables e below (T89.setTop (mkF m 170 #[.val (.int p1), .val (.long q2), .second, .val (.int p3), .val (.int p4), .val (.int p5), .val (.int cc), .val (.int (1 : Int32)), .val (.ref w7), .val (.ref b49), .val (.ref b60), .val (.ref b63), .val (.int (1 : Int32)), .val (.int (1 : Int32)), .val (.int (1 : Int32)), .unset] [(.int (1 : Int32))])) _
          refine XS.ifNo X89.here hx rfl (hb hby at_170) rfl ((if0 _ _).trans (feq ((by decide) : ¬ ((1 : Int32) = (0 : Int32)))).1) ?_
          refine XS.iload X89.here hx rfl (hb hby at_173) rfl ?_
          show Steps p.tables e below (T89.setTop (mkF m 175 #[.val (.int p1), .val (.long q2), .second, .val (.int p3), .val (.int p4), .val (.int p5), .val (.int cc), .val (.int (1 : Int32)), .val (.ref w7), .val (.ref b49), .val (.ref b60), .val (.ref b63), .val (.int (1 : Int32)), .val (.int (1 : Int32)), .val (.int (1 : Int32)), .unset] [(.int (1 : Int32))])) _
          refine XS.ifNo X89.here hx rfl (hb hby at_175) rfl ((if0 _ _).trans (feq ((by decide) : ¬ ((1 : Int32) = (0 : Int32)))).1) ?_
          refine XS.iconst X89.here hx rfl (hb hby at_178) ?_
          refine XS.goto X89.here hx rfl (pc0 := 179) (pc' := 183) rfl (hb hby at_179) (by decide) (by decide) ?_
          show Steps p.tables e below (T89.setTop (mkF m 183 #[.val (.int p1), .val (.long q2), .second, .val (.int p3), .val (.int p4), .val (.int p5), .val (.int cc), .val (.int (1 : Int32)), .val (.ref w7), .val (.ref b49), .val (.ref b60), .val (.ref b63), .val (.int (1 : Int32)), .val (.int (1 : Int32)), .val (.int (1 : Int32)), .unset] [(.int (1 : Int32))])) _
          refine XS.istore X89.here hx rfl (hb hby at_183) rfl (l' := #[.val (.int p1), .val (.long q2), .second, .val (.int p3), .val (.int p4), .val (.int p5), .val (.int cc), .val (.int (1 : Int32)), .val (.ref w7), .val (.ref b49), .val (.ref b60), .val (.ref b63), .val (.int (1 : Int32)), .val (.int (1 : Int32)), .val (.int (1 : Int32)), .val (.int (1 : Int32))]) rfl ?_
          refine XS.iload X89.here hx rfl (hb hby at_185) rfl ?_
          refine XS.iload X89.here hx rfl (hb hby at_187) rfl ?_
          show Steps p.tables e below (T89.setTop (mkF m 189 #[.val (.int p1), .val (.long q2), .second, .val (.int p3), .val (.int p4), .val (.int p5), .val (.int cc), .val (.int (1 : Int32)), .val (.ref w7), .val (.ref b49), .val (.ref b60), .val (.ref b63), .val (.int (1 : Int32)), .val (.int (1 : Int32)), .val (.int (1 : Int32)), .val (.int (1 : Int32))] [(.int (1 : Int32)), (.int (1 : Int32))])) _
          refine XS.icmpNo X89.here hx rfl (hb hby at_189) rfl (teq ((by decide) : (1 : Int32) = (1 : Int32))).2 ?_
          refine XS.iconst X89.here hx rfl (hb hby at_192) ?_
          refine XS.goto X89.here hx rfl (pc0 := 193) (pc' := 197) rfl (hb hby at_193) (by decide) (by decide) ?_
          show Steps p.tables e below (T89.setTop (mkF m 197 #[.val (.int p1), .val (.long q2), .second, .val (.int p3), .val (.int p4), .val (.int p5), .val (.int cc), .val (.int (1 : Int32)), .val (.ref w7), .val (.ref b49), .val (.ref b60), .val (.ref b63), .val (.int (1 : Int32)), .val (.int (1 : Int32)), .val (.int (1 : Int32)), .val (.int (1 : Int32))] [(.int (1 : Int32))])) _
          exact retN X89 hx (t := .boolean) Bd.returns (by simp) (hb hby at_197) hr
        · show Qrm0 Z p1 q2 p3 p4 p5 w6 w7 w8 w9 h0 n0 _ T89.heap _
          exact ⟨rfl, N89⟩
      · have f90 : Exa Z T67.heap b60 "com/example/runqueue/runqueue/Outcome" := ((P62_0.ext E63).keep K67)
        have f91 : Fld Z T67.heap b60 "com/example/runqueue/runqueue/Outcome" "state" "Lcom/example/runqueue/runqueue/Outcome$State;" (.ref w7) := ((P62_2.ext E63).keep K67 (ninS ne66 nin0))
        have f92 : Fld Z T67.heap b60 "com/example/runqueue/runqueue/Outcome" "job" "Lcom/example/runqueue/runqueue/Job;" (.ref b49) := ((P62_1.ext E63).keep K67 (ninS ne66 nin0))
        have f93 : Exa Z T67.heap b49 "com/example/runqueue/runqueue/Job" := ((f64.ext E63).keep K67)
        have f94 : Fld Z T67.heap b49 "com/example/runqueue/runqueue/Job" "maxAttempts" "I" (.int p3) := ((((P59_5.ext E60).keep K62 (ninS ne61 nin0)).ext E63).keep K67 (ninS ne65 nin0))
        have f95 : Fld Z T67.heap b60 "com/example/runqueue/runqueue/Outcome" "attempts" "I" (.int p4) := ((P62_3.ext E63).keep K67 (ninS ne66 nin0))
        obtain ⟨cq96, kq96, q96a, q96b, q96c⟩ := isOf hZ59 rfl P67_0
        obtain ⟨_, _, ⟨T96, L96, k96, n96⟩, -, X96, ⟨Lc96, hQ96, l96, y96, z96⟩, st96⟩ := X67.virtualBack hx (y := (⟨"com/example/runqueue/runqueue/Retries", "again", "(Lcom/example/runqueue/runqueue/Outcome;)Z"⟩ : MethodName)) (z := (⟨"com/example/runqueue/runqueue/Retries", "again", "(Lcom/example/runqueue/runqueue/Outcome;)Z"⟩ : MethodName)) hown59 (mvT hZ59 (hw _ (List.mem_of_getElem? (i := 69) rfl))) (mvT hZ59 (hw _ (List.mem_of_getElem? (i := 70) rfl))) (notFace_of_selects (args := #[]) (mvT hZ59 (hw _ (List.mem_of_getElem? (i := 72) rfl)))) (mvT hZ59 (hw _ (List.mem_of_getElem? (i := 72) rfl))) (mvT hZ59 (hw _ (List.mem_of_getElem? (i := 71) rfl))) (by decide) (backOf (W := 0) (rm7_5 l Z a0 hw [] b63 b60 w7 b49 p3 cc p4 T67.heap n0 O67 f90 f91 f92 f93 f94 hm P67_1 S_FAILED f95 hl) hZ59 (hw _ (List.mem_of_getElem? (i := 73) rfl)) (hw _ (List.mem_of_getElem? (i := 60) rfl)) (by decide) (by decide)) q96a q96c (g := (mkF m 110 #[.val (.int p1), .val (.long q2), .second, .val (.int p3), .val (.int p4), .val (.int p5), .val (.int cc), .val (.int (1 : Int32)), .val (.ref w7), .val (.ref b49), .val (.ref b60), .val (.ref b63), .unset, .unset, .unset, .unset] [(.ref b60), (.ref b63)])) rfl (by rw [hml]; rfl) (Steps.refl _) (argsL := [(.ref b60)]) (rest := []) (lenOf pd_13 rfl) rfl (by show 2 * 0 + _ ≤ _; exact Nat.le_of_eq rfl) (hb hby at_110) (fun _ _ => ⟨rfl, rfl, (by decide : 15 + 0 ≤ _), (by decide : 99 + 0 ≤ _)⟩)
        dsimp only [Pt.U, Pt.locs, Pt.cells, Pt.slots] at X96 l96 y96 z96 st96 hQ96
        subst l96 y96 z96
        obtain ⟨rfl, Nq96, e96⟩ := hQ96
        have N96 := Fr.app N67 Nq96
        obtain ⟨fs, hr, hrun, hended, hREW⟩ := X96.leaveW (s := s) hS59 (by rw [e96]; exact (Nat.le_trans (Nat.le_trans (Nat.le_trans (Nat.le_trans (Nat.le_refl _) E60.1) K62.1) E63.1) K67.1)) (v := some (.int (1 : Int32))) (fun h => by rw [Bd.returns] at h; cases h)
        refine ⟨_, _, pre68 _ ?_, hrun, hended, _, _, rfl, ?_, hREW.1, hREW.2.1, hREW.2.2.1, hREW.2.2.2.mono (by decide) (by decide)⟩
        · show Steps p.tables e below (T67.setTop (mkF m 106 #[.val (.int p1), .val (.long q2), .second, .val (.int p3), .val (.int p4), .val (.int p5), .val (.int cc), .val (.int (1 : Int32)), .val (.ref w7), .val (.ref b49), .val (.ref b60), .val (.ref b63), .unset, .unset, .unset, .unset] [])) _
          refine XS.aload X67.here hx rfl (hb hby at_106) rfl rfl ?_
          refine XS.aload X67.here hx rfl (hb hby at_108) rfl rfl ?_
          show Steps p.tables e below (T67.setTop (mkF m 110 #[.val (.int p1), .val (.long q2), .second, .val (.int p3), .val (.int p4), .val (.int p5), .val (.int cc), .val (.int (1 : Int32)), .val (.ref w7), .val (.ref b49), .val (.ref b60), .val (.ref b63), .unset, .unset, .unset, .unset] [(.ref b60), (.ref b63)])) _
          refine st96.trans ?_
          show Steps p.tables e below (T96.setTop (mkF m 113 #[.val (.int p1), .val (.long q2), .second, .val (.int p3), .val (.int p4), .val (.int p5), .val (.int cc), .val (.int (1 : Int32)), .val (.ref w7), .val (.ref b49), .val (.ref b60), .val (.ref b63), .unset, .unset, .unset, .unset] [(.int (0 : Int32))])) _
          refine XS.istore X96.here hx rfl (hb hby at_113) rfl (l' := #[.val (.int p1), .val (.long q2), .second, .val (.int p3), .val (.int p4), .val (.int p5), .val (.int cc), .val (.int (1 : Int32)), .val (.ref w7), .val (.ref b49), .val (.ref b60), .val (.ref b63), .val (.int (0 : Int32)), .unset, .unset, .unset]) rfl ?_
          refine XS.iload X96.here hx rfl (hb hby at_115) rfl ?_
          refine XS.iconst X96.here hx rfl (hb hby at_117) ?_
          show Steps p.tables e below (T96.setTop (mkF m 118 #[.val (.int p1), .val (.long q2), .second, .val (.int p3), .val (.int p4), .val (.int p5), .val (.int cc), .val (.int (1 : Int32)), .val (.ref w7), .val (.ref b49), .val (.ref b60), .val (.ref b63), .val (.int (0 : Int32)), .unset, .unset, .unset] [(.int (1 : Int32)), (.int (1 : Int32))])) _
          refine XS.icmpYes X96.here hx rfl (pc0 := 118) (pc' := 127) rfl (hb hby at_118) rfl (teq ((by decide) : (1 : Int32) = (1 : Int32))).1 (by decide) (by decide) ?_
          refine XS.iconst X96.here hx rfl (hb hby at_127) ?_
          refine XS.goto X96.here hx rfl (pc0 := 128) (pc' := 132) rfl (hb hby at_128) (by decide) (by decide) ?_
          show Steps p.tables e below (T96.setTop (mkF m 132 #[.val (.int p1), .val (.long q2), .second, .val (.int p3), .val (.int p4), .val (.int p5), .val (.int cc), .val (.int (1 : Int32)), .val (.ref w7), .val (.ref b49), .val (.ref b60), .val (.ref b63), .val (.int (0 : Int32)), .unset, .unset, .unset] [(.int (1 : Int32))])) _
          refine XS.istore X96.here hx rfl (hb hby at_132) rfl (l' := #[.val (.int p1), .val (.long q2), .second, .val (.int p3), .val (.int p4), .val (.int p5), .val (.int cc), .val (.int (1 : Int32)), .val (.ref w7), .val (.ref b49), .val (.ref b60), .val (.ref b63), .val (.int (0 : Int32)), .val (.int (1 : Int32)), .unset, .unset]) rfl ?_
          refine XS.iloadN X96.here hx rfl (hb hby at_134) rfl ?_
          show Steps p.tables e below (T96.setTop (mkF m 135 #[.val (.int p1), .val (.long q2), .second, .val (.int p3), .val (.int p4), .val (.int p5), .val (.int cc), .val (.int (1 : Int32)), .val (.ref w7), .val (.ref b49), .val (.ref b60), .val (.ref b63), .val (.int (0 : Int32)), .val (.int (1 : Int32)), .unset, .unset] [(.int p3)])) _
          refine XS.ifYes X96.here hx rfl (pc0 := 135) (pc' := 154) rfl (hb hby at_135) rfl ((if0 _ _).trans (flt (hm : ¬ ((0 : Int32) < p3))).2.2.2) (by decide) (by decide) ?_
          refine XS.iload X96.here hx rfl (hb hby at_154) rfl ?_
          refine XS.iload X96.here hx rfl (hb hby at_156) rfl ?_
          show Steps p.tables e below (T96.setTop (mkF m 158 #[.val (.int p1), .val (.long q2), .second, .val (.int p3), .val (.int p4), .val (.int p5), .val (.int cc), .val (.int (1 : Int32)), .val (.ref w7), .val (.ref b49), .val (.ref b60), .val (.ref b63), .val (.int (0 : Int32)), .val (.int (1 : Int32)), .unset, .unset] [(.int cc), (.int p4)])) _
          refine XS.icmpYes X96.here hx rfl (pc0 := 158) (pc' := 165) rfl (hb hby at_158) rfl (tlt ((Decidable.of_not_not (fun q => hl ((own_lim p1 p4 cc h_cc).mpr q))) : cc < p4)).2.2.1 (by decide) (by decide) ?_
          refine XS.iconst X96.here hx rfl (hb hby at_165) ?_
          refine XS.istore X96.here hx rfl (hb hby at_166) rfl (l' := #[.val (.int p1), .val (.long q2), .second, .val (.int p3), .val (.int p4), .val (.int p5), .val (.int cc), .val (.int (1 : Int32)), .val (.ref w7), .val (.ref b49), .val (.ref b60), .val (.ref b63), .val (.int (0 : Int32)), .val (.int (1 : Int32)), .val (.int (0 : Int32)), .unset]) rfl ?_
          show Steps p.tables e below (T96.setTop (mkF m 168 #[.val (.int p1), .val (.long q2), .second, .val (.int p3), .val (.int p4), .val (.int p5), .val (.int cc), .val (.int (1 : Int32)), .val (.ref w7), .val (.ref b49), .val (.ref b60), .val (.ref b63), .val (.int (0 : Int32)), .val (.int (1 : Int32)), .val (.int (0 : Int32)), .unset] [])) _
          refine XS.iload X96.here hx rfl (hb hby at_168) rfl ?_
          show Steps p.tables e below (T96.setTop (mkF m 170 #[.val (.int p1), .val (.long q2), .second, .val (.int p3), .val (.int p4), .val (.int p5), .val (.int cc), .val (.int (1 : Int32)), .val (.ref w7), .val (.ref b49), .val (.ref b60), .val (.ref b63), .val (.int (0 : Int32)), .val (.int (1 : Int32)), .val (.int (0 : Int32)), .unset] [(.int (1 : Int32))])) _
          refine XS.ifNo X96.here hx rfl (hb hby at_170) rfl ((if0 _ _).trans (feq ((by decide) : ¬ ((1 : Int32) = (0 : Int32)))).1) ?_
          refine XS.iload X96.here hx rfl (hb hby at_173) rfl ?_
          show Steps p.tables e below (T96.setTop (mkF m 175 #[.val (.int p1), .val (.long q2), .second, .val (.int p3), .val (.int p4), .val (.int p5), .val (.int cc), .val (.int (1 : Int32)), .val (.ref w7), .val (.ref b49), .val (.ref b60), .val (.ref b63), .val (.int (0 : Int32)), .val (.int (1 : Int32)), .val (.int (0 : Int32)), .unset] [(.int (0 : Int32))])) _
          refine XS.ifYes X96.here hx rfl (pc0 := 175) (pc' := 182) rfl (hb hby at_175) rfl ((if0 _ _).trans (teq ((by decide) : (0 : Int32) = (0 : Int32))).1) (by decide) (by decide) ?_
          refine XS.iconst X96.here hx rfl (hb hby at_182) ?_
          refine XS.istore X96.here hx rfl (hb hby at_183) rfl (l' := #[.val (.int p1), .val (.long q2), .second, .val (.int p3), .val (.int p4), .val (.int p5), .val (.int cc), .val (.int (1 : Int32)), .val (.ref w7), .val (.ref b49), .val (.ref b60), .val (.ref b63), .val (.int (0 : Int32)), .val (.int (1 : Int32)), .val (.int (0 : Int32)), .val (.int (0 : Int32))]) rfl ?_
          show Steps p.tables e below (T96.setTop (mkF m 185 #[.val (.int p1), .val (.long q2), .second, .val (.int p3), .val (.int p4), .val (.int p5), .val (.int cc), .val (.int (1 : Int32)), .val (.ref w7), .val (.ref b49), .val (.ref b60), .val (.ref b63), .val (.int (0 : Int32)), .val (.int (1 : Int32)), .val (.int (0 : Int32)), .val (.int (0 : Int32))] [])) _
          refine XS.iload X96.here hx rfl (hb hby at_185) rfl ?_
          refine XS.iload X96.here hx rfl (hb hby at_187) rfl ?_
          show Steps p.tables e below (T96.setTop (mkF m 189 #[.val (.int p1), .val (.long q2), .second, .val (.int p3), .val (.int p4), .val (.int p5), .val (.int cc), .val (.int (1 : Int32)), .val (.ref w7), .val (.ref b49), .val (.ref b60), .val (.ref b63), .val (.int (0 : Int32)), .val (.int (1 : Int32)), .val (.int (0 : Int32)), .val (.int (0 : Int32))] [(.int (0 : Int32)), (.int (0 : Int32))])) _
          refine XS.icmpNo X96.here hx rfl (hb hby at_189) rfl (teq ((by decide) : (0 : Int32) = (0 : Int32))).2 ?_
          refine XS.iconst X96.here hx rfl (hb hby at_192) ?_
          refine XS.goto X96.here hx rfl (pc0 := 193) (pc' := 197) rfl (hb hby at_193) (by decide) (by decide) ?_
          show Steps p.tables e below (T96.setTop (mkF m 197 #[.val (.int p1), .val (.long q2), .second, .val (.int p3), .val (.int p4), .val (.int p5), .val (.int cc), .val (.int (1 : Int32)), .val (.ref w7), .val (.ref b49), .val (.ref b60), .val (.ref b63), .val (.int (0 : Int32)), .val (.int (1 : Int32)), .val (.int (0 : Int32)), .val (.int (0 : Int32))] [(.int (1 : Int32))])) _
          exact retN X96 hx (t := .boolean) Bd.returns (by simp) (hb hby at_197) hr
        · show Qrm0 Z p1 q2 p3 p4 p5 w6 w7 w8 w9 h0 n0 _ T96.heap _
          exact ⟨rfl, N96⟩
  · obtain ⟨T97, X97, e97, st97⟩ := getS2 X0 hx hZ hown (host := "") (Or.inl (hw _ (List.mem_of_getElem? (i := 93) rfl))) Via.refl e0 (S_TIMEOUT.ext O0.2) (g := (mkF m 48 #[.val (.int p1), .val (.long q2), .second, .val (.int p3), .val (.int p4), .val (.int p5), .val (.int cc), .val (.int (2 : Int32)), .unset, .unset, .unset, .unset, .unset, .unset, .unset, .unset] [])) rfl (hb hby at_48)
    obtain ⟨T98, h98, X98, e98, E98, A98, D98, U98, st98⟩ := newO X97 hx hZ hown (hw _ (List.mem_of_getElem? (i := 4) rfl)) (hw _ (List.mem_of_getElem? (i := 5) rfl)) (hw _ (List.mem_of_getElem? (i := 6) rfl)) e97 (g := (mkF m 61 #[.val (.int p1), .val (.long q2), .second, .val (.int p3), .val (.int p4), .val (.int p5), .val (.int cc), .val (.int (2 : Int32)), .val (.ref w8), .unset, .unset, .unset, .unset, .unset, .unset, .unset] [])) rfl (hb hby at_61) (by decide) (by decide)
    obtain ⟨b98, g98⟩ : ∃ z, z = h0.size := ⟨_, rfl⟩
    rw [← g98] at A98 D98 U98 st98
    have g_b98 : n0 ≤ b98 := own_born O0 (own_eqle g98)
    have sz_b98 : h0.size ≤ b98 := Nat.le_trans (Keep.refl h0 []).1 (own_eqle g98)
    have K98 : Keep h0 h98 [] := (Keep.refl h0 []).ext E98
    have O98 : Old Z n0 h98 := O0.ext E98
    have F98_id : Fld Z h98 b98 "com/example/runqueue/runqueue/Job" "id" "Ljava/lang/String;" .null := D98 (Or.inr (hw _ (List.mem_of_getElem? (i := 34) rfl))) (ty := (.object "java/lang/String")) (by decide)
    have F98_name : Fld Z h98 b98 "com/example/runqueue/runqueue/Job" "name" "Ljava/lang/String;" .null := D98 (Or.inr (hw _ (List.mem_of_getElem? (i := 36) rfl))) (ty := (.object "java/lang/String")) (by decide)
    have F98_command : Fld Z h98 b98 "com/example/runqueue/runqueue/Job" "command" "Ljava/lang/String;" .null := D98 (Or.inr (hw _ (List.mem_of_getElem? (i := 38) rfl))) (ty := (.object "java/lang/String")) (by decide)
    have F98_timeoutMillis : Fld Z h98 b98 "com/example/runqueue/runqueue/Job" "timeoutMillis" "J" (.long (0 : Int64)) := D98 (Or.inr (hw _ (List.mem_of_getElem? (i := 40) rfl))) (ty := .long) (by decide)
    have F98_maxAttempts : Fld Z h98 b98 "com/example/runqueue/runqueue/Job" "maxAttempts" "I" (.int (0 : Int32)) := D98 (Or.inr (hw _ (List.mem_of_getElem? (i := 42) rfl))) (ty := .int) (by decide)
    obtain ⟨b99, T99, h99, k99, X99, e99, E99, hS99, hk99, hZ99, hown99, st99⟩ := ldcS (s := s) (vm0 := s.vm) X98 hx hZ hown (hw _ (List.mem_of_getElem? (i := 7) rfl)) (own_wS hw) e98 hS0 (Nat.le_trans (Nat.zero_le _) E98.1) (g := (mkF m 65 #[.val (.int p1), .val (.long q2), .second, .val (.int p3), .val (.int p4), .val (.int p5), .val (.int cc), .val (.int (2 : Int32)), .val (.ref w8), .unset, .unset, .unset, .unset, .unset, .unset, .unset] [(.ref b98), (.ref b98)])) rfl (hb hby at_65) (n := 4) (by decide) (by decide) (by decide) (by decide)
    have K99 : Keep h0 h99 [] := K98.ext E99
    have O99 : Old Z n0 h99 := O98.ext E99
    obtain ⟨b100, T100, h100, k100, X100, e100, E100, hS100, hk100, hZ100, hown100, st100⟩ := ldcS (s := s) (vm0 := T99.vm) X99 hx hZ99 hown99 (hw _ (List.mem_of_getElem? (i := 7) rfl)) (own_wS hw) e99 hS99 hk99 (g := (mkF m 67 #[.val (.int p1), .val (.long q2), .second, .val (.int p3), .val (.int p4), .val (.int p5), .val (.int cc), .val (.int (2 : Int32)), .val (.ref w8), .unset, .unset, .unset, .unset, .unset, .unset, .unset] [(.ref b99), (.ref b98), (.ref b98)])) rfl (hb hby at_67) (n := 4) (by decide) (by decide) (by decide) (by decide)
    have K100 : Keep h0 h100 [] := K99.ext E100
    have O100 : Old Z n0 h100 := O99.ext E100
    obtain ⟨b101, T101, h101, k101, X101, e101, E101, hS101, hk101, hZ101, hown101, st101⟩ := ldcS (s := s) (vm0 := T100.vm) X100 hx hZ100 hown100 (hw _ (List.mem_of_getElem? (i := 7) rfl)) (own_wS hw) e100 hS100 hk100 (g := (mkF m 69 #[.val (.int p1), .val (.long q2), .second, .val (.int p3), .val (.int p4), .val (.int p5), .val (.int cc), .val (.int (2 : Int32)), .val (.ref w8), .unset, .unset, .unset, .unset, .unset, .unset, .unset] [(.ref b100), (.ref b99), (.ref b98), (.ref b98)])) rfl (hb hby at_69) (n := 4) (by decide) (by decide) (by decide) (by decide)
    have K101 : Keep h0 h101 [] := K100.ext E101
    have O101 : Old Z n0 h101 := O100.ext E101
    have f102 : Exa Z h101 b98 "com/example/runqueue/runqueue/Job" := (((A98.ext E99).ext E100).ext E101)
    have f103 : Fld Z h101 b98 "com/example/runqueue/runqueue/Job" "id" "Ljava/lang/String;" .null := (((F98_id.ext E99).ext E100).ext E101)
    have f104 : Fld Z h101 b98 "com/example/runqueue/runqueue/Job" "name" "Ljava/lang/String;" .null := (((F98_name.ext E99).ext E100).ext E101)
    have f105 : Fld Z h101 b98 "com/example/runqueue/runqueue/Job" "command" "Ljava/lang/String;" .null := (((F98_command.ext E99).ext E100).ext E101)
    have f106 : Fld Z h101 b98 "com/example/runqueue/runqueue/Job" "timeoutMillis" "J" (.long (0 : Int64)) := (((F98_timeoutMillis.ext E99).ext E100).ext E101)
    have f107 : Fld Z h101 b98 "com/example/runqueue/runqueue/Job" "maxAttempts" "I" (.int (0 : Int32)) := (((F98_maxAttempts.ext E99).ext E100).ext E101)
    obtain ⟨_, _, ⟨T108, L108, k108, n108⟩, -, X108, h2108, hg108, ⟨Lc108, hQ108, l108, y108, z108⟩, st108⟩ := X101.specialBackS hx (y := (⟨"com/example/runqueue/runqueue/Job", "<init>", "(Ljava/lang/String;Ljava/lang/String;Ljava/lang/String;JI)V"⟩ : MethodName)) rfl hown101 (mvT hZ101 (hw _ (List.mem_of_getElem? (i := 15) rfl))) (mvT hZ101 (hw _ (List.mem_of_getElem? (i := 16) rfl))) (mvT hZ101 (hw _ (List.mem_of_getElem? (i := 17) rfl))) (by decide) (backOfS (W := 1) (rm1 l Z a0 hw [] b98 b99 b100 b101 p3 h101 n0 O101 f102 f103 g_b98 f104 f105 f106 f107) hZ101 (hw _ (List.mem_of_getElem? (i := 17) rfl)) (hw _ (List.mem_of_getElem? (i := 6) rfl)) (by decide) (by decide)) (g := (mkF m 73 #[.val (.int p1), .val (.long q2), .second, .val (.int p3), .val (.int p4), .val (.int p5), .val (.int cc), .val (.int (2 : Int32)), .val (.ref w8), .unset, .unset, .unset, .unset, .unset, .unset, .unset] [(.int p3), (.long (0 : Int64)), (.ref b101), (.ref b100), (.ref b99), (.ref b98), (.ref b98)])) rfl (by rw [hml]; rfl) (Steps.refl _) (a := b98) (argsL := [(.ref b99), (.ref b100), (.ref b101), (.long (0 : Int64)), (.int p3)]) (rest := [(.ref b98)]) (lenOf pd_5 rfl) rfl (by show 2 * 0 + _ ≤ _; exact Nat.le_of_eq rfl) (hb hby at_73) (fun _ _ => ⟨rfl, e101, (by decide : 7 + 6 ≤ _), (by decide : 29 + 64 ≤ _)⟩)
    dsimp only [Pt.U, Pt.locs, Pt.cells, Pt.slots] at X108 l108 y108 z108 st108 hQ108 h2108 hg108
    subst l108 y108 z108
    obtain ⟨X108, hS108, hZ108, hown108⟩ := rebS (s := s) (vm0 := T101.vm) hS101 (show _ ≤ T101.heap.size from (by rw [e101]; exact hk101)) X108 h2108 hg108 hZ101 hown101
    obtain ⟨rfl, Nq108, K108, P108_0, P108_1, P108_2, P108_3, P108_4, P108_5⟩ := hQ108
    have N108 := Fr.app N0 Nq108
    have KK108 : Keep h0 T108.heap [] := Keep.trans (h := h101) K101 K108 (allS (Or.inr sz_b98) all0)
    have O108 : Old Z n0 T108.heap := O101.keep K108 (allS g_b98 all0)
    obtain ⟨T109, h109, X109, e109, E109, A109, D109, U109, st109⟩ := newO X108 hx hZ108 hown108 (hw _ (List.mem_of_getElem? (i := 43) rfl)) (hw _ (List.mem_of_getElem? (i := 44) rfl)) (hw _ (List.mem_of_getElem? (i := 45) rfl)) rfl (g := (mkF m 78 #[.val (.int p1), .val (.long q2), .second, .val (.int p3), .val (.int p4), .val (.int p5), .val (.int cc), .val (.int (2 : Int32)), .val (.ref w8), .val (.ref b98), .unset, .unset, .unset, .unset, .unset, .unset] [])) rfl (hb hby at_78) (by decide) (by decide)
    obtain ⟨b109, g109⟩ : ∃ z, z = T108.heap.size := ⟨_, rfl⟩
    rw [← g109] at A109 D109 U109 st109
    have ne110 : b98 ≠ b109 := (own_ltn P108_0.lt (own_eqle g109))
    have g_b109 : n0 ≤ b109 := own_born O108 (own_eqle g109)
    have sz_b109 : h0.size ≤ b109 := Nat.le_trans KK108.1 (own_eqle g109)
    have K109 : Keep h0 h109 [] := KK108.ext E109
    have O109 : Old Z n0 h109 := O108.ext E109
    have F109_job : Fld Z h109 b109 "com/example/runqueue/runqueue/Outcome" "job" "Lcom/example/runqueue/runqueue/Job;" .null := D109 (Or.inr (hw _ (List.mem_of_getElem? (i := 51) rfl))) (ty := (.object "com/example/runqueue/runqueue/Job")) (by decide)
    have F109_state : Fld Z h109 b109 "com/example/runqueue/runqueue/Outcome" "state" "Lcom/example/runqueue/runqueue/Outcome$State;" .null := D109 (Or.inr (hw _ (List.mem_of_getElem? (i := 53) rfl))) (ty := (.object "com/example/runqueue/runqueue/Outcome$State")) (by decide)
    have F109_attempts : Fld Z h109 b109 "com/example/runqueue/runqueue/Outcome" "attempts" "I" (.int (0 : Int32)) := D109 (Or.inr (hw _ (List.mem_of_getElem? (i := 55) rfl))) (ty := .int) (by decide)
    have F109_last : Fld Z h109 b109 "com/example/runqueue/runqueue/Outcome" "last" "Lcom/example/runqueue/runqueue/Outcome$Run;" .null := D109 (Or.inr (hw _ (List.mem_of_getElem? (i := 57) rfl))) (ty := (.object "com/example/runqueue/runqueue/Outcome$Run")) (by decide)
    obtain ⟨_, _, ⟨T111, L111, k111, n111⟩, -, X111, ⟨Lc111, hQ111, l111, y111, z111⟩, st111⟩ := X109.specialBack hx (y := (⟨"com/example/runqueue/runqueue/Outcome", "<init>", "(Lcom/example/runqueue/runqueue/Job;Lcom/example/runqueue/runqueue/Outcome$State;ILcom/example/runqueue/runqueue/Outcome$Run;)V"⟩ : MethodName)) rfl hown108 (mvT hZ108 (hw _ (List.mem_of_getElem? (i := 46) rfl))) (mvT hZ108 (hw _ (List.mem_of_getElem? (i := 47) rfl))) (mvT hZ108 (hw _ (List.mem_of_getElem? (i := 48) rfl))) (by decide) (backOf (W := 1) (rm5 l Z a0 hw [] b109 b98 w8 p4 h109 n0 O109 A109 F109_job g_b109 F109_state F109_attempts F109_last) hZ108 (hw _ (List.mem_of_getElem? (i := 48) rfl)) (hw _ (List.mem_of_getElem? (i := 45) rfl)) (by decide) (by decide)) (g := (mkF m 89 #[.val (.int p1), .val (.long q2), .second, .val (.int p3), .val (.int p4), .val (.int p5), .val (.int cc), .val (.int (2 : Int32)), .val (.ref w8), .val (.ref b98), .unset, .unset, .unset, .unset, .unset, .unset] [.null, (.int p4), (.ref w8), (.ref b98), (.ref b109), (.ref b109)])) rfl (by rw [hml]; rfl) (Steps.refl _) (a := b109) (argsL := [(.ref b98), (.ref w8), (.int p4), .null]) (rest := [(.ref b109)]) (lenOf pd_7 rfl) rfl (by show 2 * 0 + _ ≤ _; exact Nat.le_of_eq rfl) (hb hby at_89) (fun _ _ => ⟨rfl, e109, (by decide : 14 + 0 ≤ _), (by decide : 97 + 0 ≤ _)⟩)
    dsimp only [Pt.U, Pt.locs, Pt.cells, Pt.slots] at X111 l111 y111 z111 st111 hQ111
    subst l111 y111 z111
    obtain ⟨rfl, Nq111, K111, P111_0, P111_1, P111_2, P111_3, P111_4⟩ := hQ111
    have N111 := Fr.app N108 Nq111
    have KK111 : Keep h0 T111.heap [] := Keep.trans (h := h109) K109 K111 (allS (Or.inr sz_b109) all0)
    have O111 : Old Z n0 T111.heap := O109.keep K111 (allS g_b109 all0)
    obtain ⟨T112, h112, X112, e112, E112, A112, D112, U112, st112⟩ := newO X111 hx hZ108 hown108 (hw _ (List.mem_of_getElem? (i := 58) rfl)) (hw _ (List.mem_of_getElem? (i := 59) rfl)) (hw _ (List.mem_of_getElem? (i := 60) rfl)) rfl (g := (mkF m 94 #[.val (.int p1), .val (.long q2), .second, .val (.int p3), .val (.int p4), .val (.int p5), .val (.int cc), .val (.int (2 : Int32)), .val (.ref w8), .val (.ref b98), .val (.ref b109), .unset, .unset, .unset, .unset, .unset] [])) rfl (hb hby at_94) (by decide) (by decide)
    obtain ⟨b112, g112⟩ : ∃ z, z = T111.heap.size := ⟨_, rfl⟩
    rw [← g112] at A112 D112 U112 st112
    have f113 : Exa Z T111.heap b98 "com/example/runqueue/runqueue/Job" := ((P108_0.ext E109).keep K111)
    have ne114 : b98 ≠ b112 := (own_ltn f113.lt (own_eqle g112))
    have ne115 : b109 ≠ b112 := (own_ltn P111_0.lt (own_eqle g112))
    have g_b112 : n0 ≤ b112 := own_born O111 (own_eqle g112)
    have sz_b112 : h0.size ≤ b112 := Nat.le_trans KK111.1 (own_eqle g112)
    have K112 : Keep h0 h112 [] := KK111.ext E112
    have O112 : Old Z n0 h112 := O111.ext E112
    have F112_count : Fld Z h112 b112 "com/example/runqueue/runqueue/Retries" "count" "I" (.int (0 : Int32)) := D112 (Or.inr (hw _ (List.mem_of_getElem? (i := 66) rfl))) (ty := .int) (by decide)
    have F112_backoffMillis : Fld Z h112 b112 "com/example/runqueue/runqueue/Retries" "backoffMillis" "J" (.long (0 : Int64)) := D112 (Or.inr (hw _ (List.mem_of_getElem? (i := 68) rfl))) (ty := .long) (by decide)
    obtain ⟨_, _, ⟨T116, L116, k116, n116⟩, -, X116, ⟨Lc116, hQ116, l116, y116, z116⟩, st116⟩ := X112.specialBack hx (y := (⟨"com/example/runqueue/runqueue/Retries", "<init>", "(IJ)V"⟩ : MethodName)) rfl hown108 (mvT hZ108 (hw _ (List.mem_of_getElem? (i := 61) rfl))) (mvT hZ108 (hw _ (List.mem_of_getElem? (i := 62) rfl))) (mvT hZ108 (hw _ (List.mem_of_getElem? (i := 63) rfl))) (by decide) (backOf (W := 1) (rm6 l Z a0 hw [] b112 cc q2 h112 n0 O112 A112 F112_count g_b112 F112_backoffMillis) hZ108 (hw _ (List.mem_of_getElem? (i := 63) rfl)) (hw _ (List.mem_of_getElem? (i := 60) rfl)) (by decide) (by decide)) (g := (mkF m 101 #[.val (.int p1), .val (.long q2), .second, .val (.int p3), .val (.int p4), .val (.int p5), .val (.int cc), .val (.int (2 : Int32)), .val (.ref w8), .val (.ref b98), .val (.ref b109), .unset, .unset, .unset, .unset, .unset] [(.long q2), (.int cc), (.ref b112), (.ref b112)])) rfl (by rw [hml]; rfl) (Steps.refl _) (a := b112) (argsL := [(.int cc), (.long q2)]) (rest := [(.ref b112)]) (lenOf pd_9 rfl) rfl (by show 2 * 0 + _ ≤ _; exact Nat.le_of_eq rfl) (hb hby at_101) (fun _ _ => ⟨rfl, e112, (by decide : 15 + 0 ≤ _), (by decide : 99 + 0 ≤ _)⟩)
    dsimp only [Pt.U, Pt.locs, Pt.cells, Pt.slots] at X116 l116 y116 z116 st116 hQ116
    subst l116 y116 z116
    obtain ⟨rfl, Nq116, K116, P116_0, P116_1, P116_2⟩ := hQ116
    have N116 := Fr.app N111 Nq116
    have KK116 : Keep h0 T116.heap [] := Keep.trans (h := h112) K112 K116 (allS (Or.inr sz_b112) all0)
    have O116 : Old Z n0 T116.heap := O112.keep K116 (allS g_b112 all0)
    have pre117 : ∀ t, Steps p.tables e below (T116.setTop (mkF m 106 #[.val (.int p1), .val (.long q2), .second, .val (.int p3), .val (.int p4), .val (.int p5), .val (.int cc), .val (.int (2 : Int32)), .val (.ref w8), .val (.ref b98), .val (.ref b109), .val (.ref b112), .unset, .unset, .unset, .unset] [])) t → Steps p.tables e below (s₁.setTop (entryFrame m #[(.int p1), (.long q2), (.int p3), (.int p4), (.int p5)] maxLocals)) t := fun t kt => pre10 t (by
      show Steps p.tables e below (s₁.setTop (mkF m 15 #[.val (.int p1), .val (.long q2), .second, .val (.int p3), .val (.int p4), .val (.int p5), .val (.int cc), .val (.int (p5 &&& (3 : Int32))), .unset, .unset, .unset, .unset, .unset, .unset, .unset, .unset] [])) _
      rw [hk]
      show Steps p.tables e below (s₁.setTop (mkF m 15 #[.val (.int p1), .val (.long q2), .second, .val (.int p3), .val (.int p4), .val (.int p5), .val (.int cc), .val (.int (2 : Int32)), .unset, .unset, .unset, .unset, .unset, .unset, .unset, .unset] [])) _
      refine XS.iload X0.here hx rfl (hb hby at_15) rfl ?_
      show Steps p.tables e below (s₁.setTop (mkF m 17 #[.val (.int p1), .val (.long q2), .second, .val (.int p3), .val (.int p4), .val (.int p5), .val (.int cc), .val (.int (2 : Int32)), .unset, .unset, .unset, .unset, .unset, .unset, .unset, .unset] [(.int (2 : Int32))])) _
      refine XS.ifYes X0.here hx rfl (pc0 := 17) (pc' := 28) rfl (hb hby at_17) rfl ((if0 _ _).trans (feq ((by decide) : ¬ ((2 : Int32) = (0 : Int32)))).2) (by decide) (by decide) ?_
      refine XS.iload X0.here hx rfl (hb hby at_28) rfl ?_
      refine XS.iconst X0.here hx rfl (hb hby at_30) ?_
      show Steps p.tables e below (s₁.setTop (mkF m 31 #[.val (.int p1), .val (.long q2), .second, .val (.int p3), .val (.int p4), .val (.int p5), .val (.int cc), .val (.int (2 : Int32)), .unset, .unset, .unset, .unset, .unset, .unset, .unset, .unset] [(.int (1 : Int32)), (.int (2 : Int32))])) _
      refine XS.icmpYes X0.here hx rfl (pc0 := 31) (pc' := 42) rfl (hb hby at_31) rfl (feq ((by decide) : ¬ ((2 : Int32) = (1 : Int32)))).2 (by decide) (by decide) ?_
      refine XS.iload X0.here hx rfl (hb hby at_42) rfl ?_
      refine XS.iconst X0.here hx rfl (hb hby at_44) ?_
      show Steps p.tables e below (s₁.setTop (mkF m 45 #[.val (.int p1), .val (.long q2), .second, .val (.int p3), .val (.int p4), .val (.int p5), .val (.int cc), .val (.int (2 : Int32)), .unset, .unset, .unset, .unset, .unset, .unset, .unset, .unset] [(.int (2 : Int32)), (.int (2 : Int32))])) _
      refine XS.icmpNo X0.here hx rfl (hb hby at_45) rfl (teq ((by decide) : (2 : Int32) = (2 : Int32))).2 ?_
      show Steps p.tables e below (s₁.setTop (mkF m 48 #[.val (.int p1), .val (.long q2), .second, .val (.int p3), .val (.int p4), .val (.int p5), .val (.int cc), .val (.int (2 : Int32)), .unset, .unset, .unset, .unset, .unset, .unset, .unset, .unset] [])) _
      refine st97 _ ?_
      show Steps p.tables e below (T97.setTop (mkF m 51 #[.val (.int p1), .val (.long q2), .second, .val (.int p3), .val (.int p4), .val (.int p5), .val (.int cc), .val (.int (2 : Int32)), .unset, .unset, .unset, .unset, .unset, .unset, .unset, .unset] [(.ref w8)])) _
      refine XS.astore X97.here hx rfl (hb hby at_51) rfl rfl (l' := #[.val (.int p1), .val (.long q2), .second, .val (.int p3), .val (.int p4), .val (.int p5), .val (.int cc), .val (.int (2 : Int32)), .val (.ref w8), .unset, .unset, .unset, .unset, .unset, .unset, .unset]) rfl ?_
      refine XS.goto X97.here hx rfl (pc0 := 53) (pc' := 61) rfl (hb hby at_53) (by decide) (by decide) ?_
      show Steps p.tables e below (T97.setTop (mkF m 61 #[.val (.int p1), .val (.long q2), .second, .val (.int p3), .val (.int p4), .val (.int p5), .val (.int cc), .val (.int (2 : Int32)), .val (.ref w8), .unset, .unset, .unset, .unset, .unset, .unset, .unset] [])) _
      refine st98 _ ?_
      show Steps p.tables e below (T98.setTop (mkF m 64 #[.val (.int p1), .val (.long q2), .second, .val (.int p3), .val (.int p4), .val (.int p5), .val (.int cc), .val (.int (2 : Int32)), .val (.ref w8), .unset, .unset, .unset, .unset, .unset, .unset, .unset] [(.ref b98)])) _
      refine XS.dup X98.here hx rfl (hb hby at_64) rfl rfl ?_
      refine st99 _ ?_
      show Steps p.tables e below (T99.setTop (mkF m 67 #[.val (.int p1), .val (.long q2), .second, .val (.int p3), .val (.int p4), .val (.int p5), .val (.int cc), .val (.int (2 : Int32)), .val (.ref w8), .unset, .unset, .unset, .unset, .unset, .unset, .unset] [(.ref b99), (.ref b98), (.ref b98)])) _
      refine st100 _ ?_
      show Steps p.tables e below (T100.setTop (mkF m 69 #[.val (.int p1), .val (.long q2), .second, .val (.int p3), .val (.int p4), .val (.int p5), .val (.int cc), .val (.int (2 : Int32)), .val (.ref w8), .unset, .unset, .unset, .unset, .unset, .unset, .unset] [(.ref b100), (.ref b99), (.ref b98), (.ref b98)])) _
      refine st101 _ ?_
      show Steps p.tables e below (T101.setTop (mkF m 71 #[.val (.int p1), .val (.long q2), .second, .val (.int p3), .val (.int p4), .val (.int p5), .val (.int cc), .val (.int (2 : Int32)), .val (.ref w8), .unset, .unset, .unset, .unset, .unset, .unset, .unset] [(.ref b101), (.ref b100), (.ref b99), (.ref b98), (.ref b98)])) _
      refine XS.lconst X101.here hx rfl (hb hby at_71) ?_
      refine XS.iloadN X101.here hx rfl (hb hby at_72) rfl ?_
      show Steps p.tables e below (T101.setTop (mkF m 73 #[.val (.int p1), .val (.long q2), .second, .val (.int p3), .val (.int p4), .val (.int p5), .val (.int cc), .val (.int (2 : Int32)), .val (.ref w8), .unset, .unset, .unset, .unset, .unset, .unset, .unset] [(.int p3), (.long (0 : Int64)), (.ref b101), (.ref b100), (.ref b99), (.ref b98), (.ref b98)])) _
      refine st108.trans ?_
      show Steps p.tables e below (T108.setTop (mkF m 76 #[.val (.int p1), .val (.long q2), .second, .val (.int p3), .val (.int p4), .val (.int p5), .val (.int cc), .val (.int (2 : Int32)), .val (.ref w8), .unset, .unset, .unset, .unset, .unset, .unset, .unset] [(.ref b98)])) _
      refine XS.astore X108.here hx rfl (hb hby at_76) rfl rfl (l' := #[.val (.int p1), .val (.long q2), .second, .val (.int p3), .val (.int p4), .val (.int p5), .val (.int cc), .val (.int (2 : Int32)), .val (.ref w8), .val (.ref b98), .unset, .unset, .unset, .unset, .unset, .unset]) rfl ?_
      show Steps p.tables e below (T108.setTop (mkF m 78 #[.val (.int p1), .val (.long q2), .second, .val (.int p3), .val (.int p4), .val (.int p5), .val (.int cc), .val (.int (2 : Int32)), .val (.ref w8), .val (.ref b98), .unset, .unset, .unset, .unset, .unset, .unset] [])) _
      refine st109 _ ?_
      show Steps p.tables e below (T109.setTop (mkF m 81 #[.val (.int p1), .val (.long q2), .second, .val (.int p3), .val (.int p4), .val (.int p5), .val (.int cc), .val (.int (2 : Int32)), .val (.ref w8), .val (.ref b98), .unset, .unset, .unset, .unset, .unset, .unset] [(.ref b109)])) _
      refine XS.dup X109.here hx rfl (hb hby at_81) rfl rfl ?_
      refine XS.aload X109.here hx rfl (hb hby at_82) rfl rfl ?_
      refine XS.aload X109.here hx rfl (hb hby at_84) rfl rfl ?_
      show Steps p.tables e below (T109.setTop (mkF m 86 #[.val (.int p1), .val (.long q2), .second, .val (.int p3), .val (.int p4), .val (.int p5), .val (.int cc), .val (.int (2 : Int32)), .val (.ref w8), .val (.ref b98), .unset, .unset, .unset, .unset, .unset, .unset] [(.ref w8), (.ref b98), (.ref b109), (.ref b109)])) _
      refine XS.iload X109.here hx rfl (hb hby at_86) rfl ?_
      refine XS.aconstNull X109.here hx rfl (hb hby at_88) ?_
      show Steps p.tables e below (T109.setTop (mkF m 89 #[.val (.int p1), .val (.long q2), .second, .val (.int p3), .val (.int p4), .val (.int p5), .val (.int cc), .val (.int (2 : Int32)), .val (.ref w8), .val (.ref b98), .unset, .unset, .unset, .unset, .unset, .unset] [.null, (.int p4), (.ref w8), (.ref b98), (.ref b109), (.ref b109)])) _
      refine st111.trans ?_
      show Steps p.tables e below (T111.setTop (mkF m 92 #[.val (.int p1), .val (.long q2), .second, .val (.int p3), .val (.int p4), .val (.int p5), .val (.int cc), .val (.int (2 : Int32)), .val (.ref w8), .val (.ref b98), .unset, .unset, .unset, .unset, .unset, .unset] [(.ref b109)])) _
      refine XS.astore X111.here hx rfl (hb hby at_92) rfl rfl (l' := #[.val (.int p1), .val (.long q2), .second, .val (.int p3), .val (.int p4), .val (.int p5), .val (.int cc), .val (.int (2 : Int32)), .val (.ref w8), .val (.ref b98), .val (.ref b109), .unset, .unset, .unset, .unset, .unset]) rfl ?_
      show Steps p.tables e below (T111.setTop (mkF m 94 #[.val (.int p1), .val (.long q2), .second, .val (.int p3), .val (.int p4), .val (.int p5), .val (.int cc), .val (.int (2 : Int32)), .val (.ref w8), .val (.ref b98), .val (.ref b109), .unset, .unset, .unset, .unset, .unset] [])) _
      refine st112 _ ?_
      show Steps p.tables e below (T112.setTop (mkF m 97 #[.val (.int p1), .val (.long q2), .second, .val (.int p3), .val (.int p4), .val (.int p5), .val (.int cc), .val (.int (2 : Int32)), .val (.ref w8), .val (.ref b98), .val (.ref b109), .unset, .unset, .unset, .unset, .unset] [(.ref b112)])) _
      refine XS.dup X112.here hx rfl (hb hby at_97) rfl rfl ?_
      refine XS.iload X112.here hx rfl (hb hby at_98) rfl ?_
      refine XS.lloadN X112.here hx rfl (hb hby at_100) rfl ?_
      show Steps p.tables e below (T112.setTop (mkF m 101 #[.val (.int p1), .val (.long q2), .second, .val (.int p3), .val (.int p4), .val (.int p5), .val (.int cc), .val (.int (2 : Int32)), .val (.ref w8), .val (.ref b98), .val (.ref b109), .unset, .unset, .unset, .unset, .unset] [(.long q2), (.int cc), (.ref b112), (.ref b112)])) _
      refine st116.trans ?_
      show Steps p.tables e below (T116.setTop (mkF m 104 #[.val (.int p1), .val (.long q2), .second, .val (.int p3), .val (.int p4), .val (.int p5), .val (.int cc), .val (.int (2 : Int32)), .val (.ref w8), .val (.ref b98), .val (.ref b109), .unset, .unset, .unset, .unset, .unset] [(.ref b112)])) _
      refine XS.astore X116.here hx rfl (hb hby at_104) rfl rfl (l' := #[.val (.int p1), .val (.long q2), .second, .val (.int p3), .val (.int p4), .val (.int p5), .val (.int cc), .val (.int (2 : Int32)), .val (.ref w8), .val (.ref b98), .val (.ref b109), .val (.ref b112), .unset, .unset, .unset, .unset]) rfl ?_
      exact kt)
    by_cases hm : (0 : Int32) < p3
    · by_cases hl : p4 < p3
      · have f118 : Exa Z T116.heap b109 "com/example/runqueue/runqueue/Outcome" := ((P111_0.ext E112).keep K116)
        have f119 : Fld Z T116.heap b109 "com/example/runqueue/runqueue/Outcome" "state" "Lcom/example/runqueue/runqueue/Outcome$State;" (.ref w8) := ((P111_2.ext E112).keep K116 (ninS ne115 nin0))
        have f120 : Fld Z T116.heap b109 "com/example/runqueue/runqueue/Outcome" "job" "Lcom/example/runqueue/runqueue/Job;" (.ref b98) := ((P111_1.ext E112).keep K116 (ninS ne115 nin0))
        have f121 : Exa Z T116.heap b98 "com/example/runqueue/runqueue/Job" := ((f113.ext E112).keep K116)
        have f122 : Fld Z T116.heap b98 "com/example/runqueue/runqueue/Job" "maxAttempts" "I" (.int p3) := ((((P108_5.ext E109).keep K111 (ninS ne110 nin0)).ext E112).keep K116 (ninS ne114 nin0))
        have f123 : Fld Z T116.heap b109 "com/example/runqueue/runqueue/Outcome" "attempts" "I" (.int p4) := ((P111_3.ext E112).keep K116 (ninS ne115 nin0))
        obtain ⟨cq124, kq124, q124a, q124b, q124c⟩ := isOf hZ108 rfl P116_0
        obtain ⟨_, _, ⟨T124, L124, k124, n124⟩, -, X124, ⟨Lc124, hQ124, l124, y124, z124⟩, st124⟩ := X116.virtualBack hx (y := (⟨"com/example/runqueue/runqueue/Retries", "again", "(Lcom/example/runqueue/runqueue/Outcome;)Z"⟩ : MethodName)) (z := (⟨"com/example/runqueue/runqueue/Retries", "again", "(Lcom/example/runqueue/runqueue/Outcome;)Z"⟩ : MethodName)) hown108 (mvT hZ108 (hw _ (List.mem_of_getElem? (i := 69) rfl))) (mvT hZ108 (hw _ (List.mem_of_getElem? (i := 70) rfl))) (notFace_of_selects (args := #[]) (mvT hZ108 (hw _ (List.mem_of_getElem? (i := 72) rfl)))) (mvT hZ108 (hw _ (List.mem_of_getElem? (i := 72) rfl))) (mvT hZ108 (hw _ (List.mem_of_getElem? (i := 71) rfl))) (by decide) (backOf (W := 0) (rm7_6 l Z a0 hw [] b112 b109 w8 b98 p3 w7 p4 T116.heap n0 O116 f118 f119 f120 f121 f122 hm S_FAILED (Ne.symm (Fld.ne F_FAILED F_TIMEOUT (by decide))) S_TIMEOUT f123 hl) hZ108 (hw _ (List.mem_of_getElem? (i := 73) rfl)) (hw _ (List.mem_of_getElem? (i := 60) rfl)) (by decide) (by decide)) q124a q124c (g := (mkF m 110 #[.val (.int p1), .val (.long q2), .second, .val (.int p3), .val (.int p4), .val (.int p5), .val (.int cc), .val (.int (2 : Int32)), .val (.ref w8), .val (.ref b98), .val (.ref b109), .val (.ref b112), .unset, .unset, .unset, .unset] [(.ref b109), (.ref b112)])) rfl (by rw [hml]; rfl) (Steps.refl _) (argsL := [(.ref b109)]) (rest := []) (lenOf pd_13 rfl) rfl (by show 2 * 0 + _ ≤ _; exact Nat.le_of_eq rfl) (hb hby at_110) (fun _ _ => ⟨rfl, rfl, (by decide : 15 + 0 ≤ _), (by decide : 99 + 0 ≤ _)⟩)
        dsimp only [Pt.U, Pt.locs, Pt.cells, Pt.slots] at X124 l124 y124 z124 st124 hQ124
        subst l124 y124 z124
        obtain ⟨rfl, Nq124, e124⟩ := hQ124
        have N124 := Fr.app N116 Nq124
        obtain ⟨fs, hr, hrun, hended, hREW⟩ := X124.leaveW (s := s) hS108 (by rw [e124]; exact (Nat.le_trans (Nat.le_trans (Nat.le_trans (Nat.le_trans (Nat.le_refl _) E109.1) K111.1) E112.1) K116.1)) (v := some (.int (1 : Int32))) (fun h => by rw [Bd.returns] at h; cases h)
        refine ⟨_, _, pre117 _ ?_, hrun, hended, _, _, rfl, ?_, hREW.1, hREW.2.1, hREW.2.2.1, hREW.2.2.2.mono (by decide) (by decide)⟩
        · show Steps p.tables e below (T116.setTop (mkF m 106 #[.val (.int p1), .val (.long q2), .second, .val (.int p3), .val (.int p4), .val (.int p5), .val (.int cc), .val (.int (2 : Int32)), .val (.ref w8), .val (.ref b98), .val (.ref b109), .val (.ref b112), .unset, .unset, .unset, .unset] [])) _
          refine XS.aload X116.here hx rfl (hb hby at_106) rfl rfl ?_
          refine XS.aload X116.here hx rfl (hb hby at_108) rfl rfl ?_
          show Steps p.tables e below (T116.setTop (mkF m 110 #[.val (.int p1), .val (.long q2), .second, .val (.int p3), .val (.int p4), .val (.int p5), .val (.int cc), .val (.int (2 : Int32)), .val (.ref w8), .val (.ref b98), .val (.ref b109), .val (.ref b112), .unset, .unset, .unset, .unset] [(.ref b109), (.ref b112)])) _
          refine st124.trans ?_
          show Steps p.tables e below (T124.setTop (mkF m 113 #[.val (.int p1), .val (.long q2), .second, .val (.int p3), .val (.int p4), .val (.int p5), .val (.int cc), .val (.int (2 : Int32)), .val (.ref w8), .val (.ref b98), .val (.ref b109), .val (.ref b112), .unset, .unset, .unset, .unset] [(.int (1 : Int32))])) _
          refine XS.istore X124.here hx rfl (hb hby at_113) rfl (l' := #[.val (.int p1), .val (.long q2), .second, .val (.int p3), .val (.int p4), .val (.int p5), .val (.int cc), .val (.int (2 : Int32)), .val (.ref w8), .val (.ref b98), .val (.ref b109), .val (.ref b112), .val (.int (1 : Int32)), .unset, .unset, .unset]) rfl ?_
          refine XS.iload X124.here hx rfl (hb hby at_115) rfl ?_
          refine XS.iconst X124.here hx rfl (hb hby at_117) ?_
          show Steps p.tables e below (T124.setTop (mkF m 118 #[.val (.int p1), .val (.long q2), .second, .val (.int p3), .val (.int p4), .val (.int p5), .val (.int cc), .val (.int (2 : Int32)), .val (.ref w8), .val (.ref b98), .val (.ref b109), .val (.ref b112), .val (.int (1 : Int32)), .unset, .unset, .unset] [(.int (1 : Int32)), (.int (2 : Int32))])) _
          refine XS.icmpNo X124.here hx rfl (hb hby at_118) rfl (feq ((by decide) : ¬ ((2 : Int32) = (1 : Int32)))).1 ?_
          refine XS.iload X124.here hx rfl (hb hby at_121) rfl ?_
          refine XS.iconst X124.here hx rfl (hb hby at_123) ?_
          show Steps p.tables e below (T124.setTop (mkF m 124 #[.val (.int p1), .val (.long q2), .second, .val (.int p3), .val (.int p4), .val (.int p5), .val (.int cc), .val (.int (2 : Int32)), .val (.ref w8), .val (.ref b98), .val (.ref b109), .val (.ref b112), .val (.int (1 : Int32)), .unset, .unset, .unset] [(.int (2 : Int32)), (.int (2 : Int32))])) _
          refine XS.icmpNo X124.here hx rfl (hb hby at_124) rfl (teq ((by decide) : (2 : Int32) = (2 : Int32))).2 ?_
          refine XS.iconst X124.here hx rfl (hb hby at_127) ?_
          refine XS.goto X124.here hx rfl (pc0 := 128) (pc' := 132) rfl (hb hby at_128) (by decide) (by decide) ?_
          show Steps p.tables e below (T124.setTop (mkF m 132 #[.val (.int p1), .val (.long q2), .second, .val (.int p3), .val (.int p4), .val (.int p5), .val (.int cc), .val (.int (2 : Int32)), .val (.ref w8), .val (.ref b98), .val (.ref b109), .val (.ref b112), .val (.int (1 : Int32)), .unset, .unset, .unset] [(.int (1 : Int32))])) _
          refine XS.istore X124.here hx rfl (hb hby at_132) rfl (l' := #[.val (.int p1), .val (.long q2), .second, .val (.int p3), .val (.int p4), .val (.int p5), .val (.int cc), .val (.int (2 : Int32)), .val (.ref w8), .val (.ref b98), .val (.ref b109), .val (.ref b112), .val (.int (1 : Int32)), .val (.int (1 : Int32)), .unset, .unset]) rfl ?_
          refine XS.iloadN X124.here hx rfl (hb hby at_134) rfl ?_
          show Steps p.tables e below (T124.setTop (mkF m 135 #[.val (.int p1), .val (.long q2), .second, .val (.int p3), .val (.int p4), .val (.int p5), .val (.int cc), .val (.int (2 : Int32)), .val (.ref w8), .val (.ref b98), .val (.ref b109), .val (.ref b112), .val (.int (1 : Int32)), .val (.int (1 : Int32)), .unset, .unset] [(.int p3)])) _
          refine XS.ifNo X124.here hx rfl (hb hby at_135) rfl ((if0 _ _).trans (tlt (hm : (0 : Int32) < p3)).2.2.2) ?_
          refine XS.iload X124.here hx rfl (hb hby at_138) rfl ?_
          refine XS.iloadN X124.here hx rfl (hb hby at_140) rfl ?_
          show Steps p.tables e below (T124.setTop (mkF m 141 #[.val (.int p1), .val (.long q2), .second, .val (.int p3), .val (.int p4), .val (.int p5), .val (.int cc), .val (.int (2 : Int32)), .val (.ref w8), .val (.ref b98), .val (.ref b109), .val (.ref b112), .val (.int (1 : Int32)), .val (.int (1 : Int32)), .unset, .unset] [(.int p3), (.int p4)])) _
          refine XS.icmpNo X124.here hx rfl (hb hby at_141) rfl (tlt (hl : p4 < p3)).2.1 ?_
          refine XS.iconst X124.here hx rfl (hb hby at_144) ?_
          refine XS.goto X124.here hx rfl (pc0 := 145) (pc' := 149) rfl (hb hby at_145) (by decide) (by decide) ?_
          show Steps p.tables e below (T124.setTop (mkF m 149 #[.val (.int p1), .val (.long q2), .second, .val (.int p3), .val (.int p4), .val (.int p5), .val (.int cc), .val (.int (2 : Int32)), .val (.ref w8), .val (.ref b98), .val (.ref b109), .val (.ref b112), .val (.int (1 : Int32)), .val (.int (1 : Int32)), .unset, .unset] [(.int (1 : Int32))])) _
          refine XS.istore X124.here hx rfl (hb hby at_149) rfl (l' := #[.val (.int p1), .val (.long q2), .second, .val (.int p3), .val (.int p4), .val (.int p5), .val (.int cc), .val (.int (2 : Int32)), .val (.ref w8), .val (.ref b98), .val (.ref b109), .val (.ref b112), .val (.int (1 : Int32)), .val (.int (1 : Int32)), .val (.int (1 : Int32)), .unset]) rfl ?_
          refine XS.goto X124.here hx rfl (pc0 := 151) (pc' := 168) rfl (hb hby at_151) (by decide) (by decide) ?_
          refine XS.iload X124.here hx rfl (hb hby at_168) rfl ?_
          show Steps p.tables e below (T124.setTop (mkF m 170 #[.val (.int p1), .val (.long q2), .second, .val (.int p3), .val (.int p4), .val (.int p5), .val (.int cc), .val (.int (2 : Int32)), .val (.ref w8), .val (.ref b98), .val (.ref b109), .val (.ref b112), .val (.int (1 : Int32)), .val (.int (1 : Int32)), .val (.int (1 : Int32)), .unset] [(.int (1 : Int32))])) _
          refine XS.ifNo X124.here hx rfl (hb hby at_170) rfl ((if0 _ _).trans (feq ((by decide) : ¬ ((1 : Int32) = (0 : Int32)))).1) ?_
          refine XS.iload X124.here hx rfl (hb hby at_173) rfl ?_
          show Steps p.tables e below (T124.setTop (mkF m 175 #[.val (.int p1), .val (.long q2), .second, .val (.int p3), .val (.int p4), .val (.int p5), .val (.int cc), .val (.int (2 : Int32)), .val (.ref w8), .val (.ref b98), .val (.ref b109), .val (.ref b112), .val (.int (1 : Int32)), .val (.int (1 : Int32)), .val (.int (1 : Int32)), .unset] [(.int (1 : Int32))])) _
          refine XS.ifNo X124.here hx rfl (hb hby at_175) rfl ((if0 _ _).trans (feq ((by decide) : ¬ ((1 : Int32) = (0 : Int32)))).1) ?_
          refine XS.iconst X124.here hx rfl (hb hby at_178) ?_
          refine XS.goto X124.here hx rfl (pc0 := 179) (pc' := 183) rfl (hb hby at_179) (by decide) (by decide) ?_
          show Steps p.tables e below (T124.setTop (mkF m 183 #[.val (.int p1), .val (.long q2), .second, .val (.int p3), .val (.int p4), .val (.int p5), .val (.int cc), .val (.int (2 : Int32)), .val (.ref w8), .val (.ref b98), .val (.ref b109), .val (.ref b112), .val (.int (1 : Int32)), .val (.int (1 : Int32)), .val (.int (1 : Int32)), .unset] [(.int (1 : Int32))])) _
          refine XS.istore X124.here hx rfl (hb hby at_183) rfl (l' := #[.val (.int p1), .val (.long q2), .second, .val (.int p3), .val (.int p4), .val (.int p5), .val (.int cc), .val (.int (2 : Int32)), .val (.ref w8), .val (.ref b98), .val (.ref b109), .val (.ref b112), .val (.int (1 : Int32)), .val (.int (1 : Int32)), .val (.int (1 : Int32)), .val (.int (1 : Int32))]) rfl ?_
          refine XS.iload X124.here hx rfl (hb hby at_185) rfl ?_
          refine XS.iload X124.here hx rfl (hb hby at_187) rfl ?_
          show Steps p.tables e below (T124.setTop (mkF m 189 #[.val (.int p1), .val (.long q2), .second, .val (.int p3), .val (.int p4), .val (.int p5), .val (.int cc), .val (.int (2 : Int32)), .val (.ref w8), .val (.ref b98), .val (.ref b109), .val (.ref b112), .val (.int (1 : Int32)), .val (.int (1 : Int32)), .val (.int (1 : Int32)), .val (.int (1 : Int32))] [(.int (1 : Int32)), (.int (1 : Int32))])) _
          refine XS.icmpNo X124.here hx rfl (hb hby at_189) rfl (teq ((by decide) : (1 : Int32) = (1 : Int32))).2 ?_
          refine XS.iconst X124.here hx rfl (hb hby at_192) ?_
          refine XS.goto X124.here hx rfl (pc0 := 193) (pc' := 197) rfl (hb hby at_193) (by decide) (by decide) ?_
          show Steps p.tables e below (T124.setTop (mkF m 197 #[.val (.int p1), .val (.long q2), .second, .val (.int p3), .val (.int p4), .val (.int p5), .val (.int cc), .val (.int (2 : Int32)), .val (.ref w8), .val (.ref b98), .val (.ref b109), .val (.ref b112), .val (.int (1 : Int32)), .val (.int (1 : Int32)), .val (.int (1 : Int32)), .val (.int (1 : Int32))] [(.int (1 : Int32))])) _
          exact retN X124 hx (t := .boolean) Bd.returns (by simp) (hb hby at_197) hr
        · show Qrm0 Z p1 q2 p3 p4 p5 w6 w7 w8 w9 h0 n0 _ T124.heap _
          exact ⟨rfl, N124⟩
      · have f125 : Exa Z T116.heap b109 "com/example/runqueue/runqueue/Outcome" := ((P111_0.ext E112).keep K116)
        have f126 : Fld Z T116.heap b109 "com/example/runqueue/runqueue/Outcome" "state" "Lcom/example/runqueue/runqueue/Outcome$State;" (.ref w8) := ((P111_2.ext E112).keep K116 (ninS ne115 nin0))
        have f127 : Fld Z T116.heap b109 "com/example/runqueue/runqueue/Outcome" "job" "Lcom/example/runqueue/runqueue/Job;" (.ref b98) := ((P111_1.ext E112).keep K116 (ninS ne115 nin0))
        have f128 : Exa Z T116.heap b98 "com/example/runqueue/runqueue/Job" := ((f113.ext E112).keep K116)
        have f129 : Fld Z T116.heap b98 "com/example/runqueue/runqueue/Job" "maxAttempts" "I" (.int p3) := ((((P108_5.ext E109).keep K111 (ninS ne110 nin0)).ext E112).keep K116 (ninS ne114 nin0))
        have f130 : Fld Z T116.heap b109 "com/example/runqueue/runqueue/Outcome" "attempts" "I" (.int p4) := ((P111_3.ext E112).keep K116 (ninS ne115 nin0))
        obtain ⟨cq131, kq131, q131a, q131b, q131c⟩ := isOf hZ108 rfl P116_0
        obtain ⟨_, _, ⟨T131, L131, k131, n131⟩, -, X131, ⟨Lc131, hQ131, l131, y131, z131⟩, st131⟩ := X116.virtualBack hx (y := (⟨"com/example/runqueue/runqueue/Retries", "again", "(Lcom/example/runqueue/runqueue/Outcome;)Z"⟩ : MethodName)) (z := (⟨"com/example/runqueue/runqueue/Retries", "again", "(Lcom/example/runqueue/runqueue/Outcome;)Z"⟩ : MethodName)) hown108 (mvT hZ108 (hw _ (List.mem_of_getElem? (i := 69) rfl))) (mvT hZ108 (hw _ (List.mem_of_getElem? (i := 70) rfl))) (notFace_of_selects (args := #[]) (mvT hZ108 (hw _ (List.mem_of_getElem? (i := 72) rfl)))) (mvT hZ108 (hw _ (List.mem_of_getElem? (i := 72) rfl))) (mvT hZ108 (hw _ (List.mem_of_getElem? (i := 71) rfl))) (by decide) (backOf (W := 0) (rm7_7 l Z a0 hw [] b112 b109 w8 b98 p3 w7 p4 T116.heap n0 O116 f125 f126 f127 f128 f129 hm S_FAILED (Ne.symm (Fld.ne F_FAILED F_TIMEOUT (by decide))) S_TIMEOUT f130 hl) hZ108 (hw _ (List.mem_of_getElem? (i := 73) rfl)) (hw _ (List.mem_of_getElem? (i := 60) rfl)) (by decide) (by decide)) q131a q131c (g := (mkF m 110 #[.val (.int p1), .val (.long q2), .second, .val (.int p3), .val (.int p4), .val (.int p5), .val (.int cc), .val (.int (2 : Int32)), .val (.ref w8), .val (.ref b98), .val (.ref b109), .val (.ref b112), .unset, .unset, .unset, .unset] [(.ref b109), (.ref b112)])) rfl (by rw [hml]; rfl) (Steps.refl _) (argsL := [(.ref b109)]) (rest := []) (lenOf pd_13 rfl) rfl (by show 2 * 0 + _ ≤ _; exact Nat.le_of_eq rfl) (hb hby at_110) (fun _ _ => ⟨rfl, rfl, (by decide : 15 + 0 ≤ _), (by decide : 99 + 0 ≤ _)⟩)
        dsimp only [Pt.U, Pt.locs, Pt.cells, Pt.slots] at X131 l131 y131 z131 st131 hQ131
        subst l131 y131 z131
        obtain ⟨rfl, Nq131, e131⟩ := hQ131
        have N131 := Fr.app N116 Nq131
        obtain ⟨fs, hr, hrun, hended, hREW⟩ := X131.leaveW (s := s) hS108 (by rw [e131]; exact (Nat.le_trans (Nat.le_trans (Nat.le_trans (Nat.le_trans (Nat.le_refl _) E109.1) K111.1) E112.1) K116.1)) (v := some (.int (1 : Int32))) (fun h => by rw [Bd.returns] at h; cases h)
        refine ⟨_, _, pre117 _ ?_, hrun, hended, _, _, rfl, ?_, hREW.1, hREW.2.1, hREW.2.2.1, hREW.2.2.2.mono (by decide) (by decide)⟩
        · show Steps p.tables e below (T116.setTop (mkF m 106 #[.val (.int p1), .val (.long q2), .second, .val (.int p3), .val (.int p4), .val (.int p5), .val (.int cc), .val (.int (2 : Int32)), .val (.ref w8), .val (.ref b98), .val (.ref b109), .val (.ref b112), .unset, .unset, .unset, .unset] [])) _
          refine XS.aload X116.here hx rfl (hb hby at_106) rfl rfl ?_
          refine XS.aload X116.here hx rfl (hb hby at_108) rfl rfl ?_
          show Steps p.tables e below (T116.setTop (mkF m 110 #[.val (.int p1), .val (.long q2), .second, .val (.int p3), .val (.int p4), .val (.int p5), .val (.int cc), .val (.int (2 : Int32)), .val (.ref w8), .val (.ref b98), .val (.ref b109), .val (.ref b112), .unset, .unset, .unset, .unset] [(.ref b109), (.ref b112)])) _
          refine st131.trans ?_
          show Steps p.tables e below (T131.setTop (mkF m 113 #[.val (.int p1), .val (.long q2), .second, .val (.int p3), .val (.int p4), .val (.int p5), .val (.int cc), .val (.int (2 : Int32)), .val (.ref w8), .val (.ref b98), .val (.ref b109), .val (.ref b112), .unset, .unset, .unset, .unset] [(.int (0 : Int32))])) _
          refine XS.istore X131.here hx rfl (hb hby at_113) rfl (l' := #[.val (.int p1), .val (.long q2), .second, .val (.int p3), .val (.int p4), .val (.int p5), .val (.int cc), .val (.int (2 : Int32)), .val (.ref w8), .val (.ref b98), .val (.ref b109), .val (.ref b112), .val (.int (0 : Int32)), .unset, .unset, .unset]) rfl ?_
          refine XS.iload X131.here hx rfl (hb hby at_115) rfl ?_
          refine XS.iconst X131.here hx rfl (hb hby at_117) ?_
          show Steps p.tables e below (T131.setTop (mkF m 118 #[.val (.int p1), .val (.long q2), .second, .val (.int p3), .val (.int p4), .val (.int p5), .val (.int cc), .val (.int (2 : Int32)), .val (.ref w8), .val (.ref b98), .val (.ref b109), .val (.ref b112), .val (.int (0 : Int32)), .unset, .unset, .unset] [(.int (1 : Int32)), (.int (2 : Int32))])) _
          refine XS.icmpNo X131.here hx rfl (hb hby at_118) rfl (feq ((by decide) : ¬ ((2 : Int32) = (1 : Int32)))).1 ?_
          refine XS.iload X131.here hx rfl (hb hby at_121) rfl ?_
          refine XS.iconst X131.here hx rfl (hb hby at_123) ?_
          show Steps p.tables e below (T131.setTop (mkF m 124 #[.val (.int p1), .val (.long q2), .second, .val (.int p3), .val (.int p4), .val (.int p5), .val (.int cc), .val (.int (2 : Int32)), .val (.ref w8), .val (.ref b98), .val (.ref b109), .val (.ref b112), .val (.int (0 : Int32)), .unset, .unset, .unset] [(.int (2 : Int32)), (.int (2 : Int32))])) _
          refine XS.icmpNo X131.here hx rfl (hb hby at_124) rfl (teq ((by decide) : (2 : Int32) = (2 : Int32))).2 ?_
          refine XS.iconst X131.here hx rfl (hb hby at_127) ?_
          refine XS.goto X131.here hx rfl (pc0 := 128) (pc' := 132) rfl (hb hby at_128) (by decide) (by decide) ?_
          show Steps p.tables e below (T131.setTop (mkF m 132 #[.val (.int p1), .val (.long q2), .second, .val (.int p3), .val (.int p4), .val (.int p5), .val (.int cc), .val (.int (2 : Int32)), .val (.ref w8), .val (.ref b98), .val (.ref b109), .val (.ref b112), .val (.int (0 : Int32)), .unset, .unset, .unset] [(.int (1 : Int32))])) _
          refine XS.istore X131.here hx rfl (hb hby at_132) rfl (l' := #[.val (.int p1), .val (.long q2), .second, .val (.int p3), .val (.int p4), .val (.int p5), .val (.int cc), .val (.int (2 : Int32)), .val (.ref w8), .val (.ref b98), .val (.ref b109), .val (.ref b112), .val (.int (0 : Int32)), .val (.int (1 : Int32)), .unset, .unset]) rfl ?_
          refine XS.iloadN X131.here hx rfl (hb hby at_134) rfl ?_
          show Steps p.tables e below (T131.setTop (mkF m 135 #[.val (.int p1), .val (.long q2), .second, .val (.int p3), .val (.int p4), .val (.int p5), .val (.int cc), .val (.int (2 : Int32)), .val (.ref w8), .val (.ref b98), .val (.ref b109), .val (.ref b112), .val (.int (0 : Int32)), .val (.int (1 : Int32)), .unset, .unset] [(.int p3)])) _
          refine XS.ifNo X131.here hx rfl (hb hby at_135) rfl ((if0 _ _).trans (tlt (hm : (0 : Int32) < p3)).2.2.2) ?_
          refine XS.iload X131.here hx rfl (hb hby at_138) rfl ?_
          refine XS.iloadN X131.here hx rfl (hb hby at_140) rfl ?_
          show Steps p.tables e below (T131.setTop (mkF m 141 #[.val (.int p1), .val (.long q2), .second, .val (.int p3), .val (.int p4), .val (.int p5), .val (.int cc), .val (.int (2 : Int32)), .val (.ref w8), .val (.ref b98), .val (.ref b109), .val (.ref b112), .val (.int (0 : Int32)), .val (.int (1 : Int32)), .unset, .unset] [(.int p3), (.int p4)])) _
          refine XS.icmpYes X131.here hx rfl (pc0 := 141) (pc' := 148) rfl (hb hby at_141) rfl (flt (hl : ¬ (p4 < p3))).2.1 (by decide) (by decide) ?_
          refine XS.iconst X131.here hx rfl (hb hby at_148) ?_
          refine XS.istore X131.here hx rfl (hb hby at_149) rfl (l' := #[.val (.int p1), .val (.long q2), .second, .val (.int p3), .val (.int p4), .val (.int p5), .val (.int cc), .val (.int (2 : Int32)), .val (.ref w8), .val (.ref b98), .val (.ref b109), .val (.ref b112), .val (.int (0 : Int32)), .val (.int (1 : Int32)), .val (.int (0 : Int32)), .unset]) rfl ?_
          show Steps p.tables e below (T131.setTop (mkF m 151 #[.val (.int p1), .val (.long q2), .second, .val (.int p3), .val (.int p4), .val (.int p5), .val (.int cc), .val (.int (2 : Int32)), .val (.ref w8), .val (.ref b98), .val (.ref b109), .val (.ref b112), .val (.int (0 : Int32)), .val (.int (1 : Int32)), .val (.int (0 : Int32)), .unset] [])) _
          refine XS.goto X131.here hx rfl (pc0 := 151) (pc' := 168) rfl (hb hby at_151) (by decide) (by decide) ?_
          refine XS.iload X131.here hx rfl (hb hby at_168) rfl ?_
          show Steps p.tables e below (T131.setTop (mkF m 170 #[.val (.int p1), .val (.long q2), .second, .val (.int p3), .val (.int p4), .val (.int p5), .val (.int cc), .val (.int (2 : Int32)), .val (.ref w8), .val (.ref b98), .val (.ref b109), .val (.ref b112), .val (.int (0 : Int32)), .val (.int (1 : Int32)), .val (.int (0 : Int32)), .unset] [(.int (1 : Int32))])) _
          refine XS.ifNo X131.here hx rfl (hb hby at_170) rfl ((if0 _ _).trans (feq ((by decide) : ¬ ((1 : Int32) = (0 : Int32)))).1) ?_
          refine XS.iload X131.here hx rfl (hb hby at_173) rfl ?_
          show Steps p.tables e below (T131.setTop (mkF m 175 #[.val (.int p1), .val (.long q2), .second, .val (.int p3), .val (.int p4), .val (.int p5), .val (.int cc), .val (.int (2 : Int32)), .val (.ref w8), .val (.ref b98), .val (.ref b109), .val (.ref b112), .val (.int (0 : Int32)), .val (.int (1 : Int32)), .val (.int (0 : Int32)), .unset] [(.int (0 : Int32))])) _
          refine XS.ifYes X131.here hx rfl (pc0 := 175) (pc' := 182) rfl (hb hby at_175) rfl ((if0 _ _).trans (teq ((by decide) : (0 : Int32) = (0 : Int32))).1) (by decide) (by decide) ?_
          refine XS.iconst X131.here hx rfl (hb hby at_182) ?_
          refine XS.istore X131.here hx rfl (hb hby at_183) rfl (l' := #[.val (.int p1), .val (.long q2), .second, .val (.int p3), .val (.int p4), .val (.int p5), .val (.int cc), .val (.int (2 : Int32)), .val (.ref w8), .val (.ref b98), .val (.ref b109), .val (.ref b112), .val (.int (0 : Int32)), .val (.int (1 : Int32)), .val (.int (0 : Int32)), .val (.int (0 : Int32))]) rfl ?_
          show Steps p.tables e below (T131.setTop (mkF m 185 #[.val (.int p1), .val (.long q2), .second, .val (.int p3), .val (.int p4), .val (.int p5), .val (.int cc), .val (.int (2 : Int32)), .val (.ref w8), .val (.ref b98), .val (.ref b109), .val (.ref b112), .val (.int (0 : Int32)), .val (.int (1 : Int32)), .val (.int (0 : Int32)), .val (.int (0 : Int32))] [])) _
          refine XS.iload X131.here hx rfl (hb hby at_185) rfl ?_
          refine XS.iload X131.here hx rfl (hb hby at_187) rfl ?_
          show Steps p.tables e below (T131.setTop (mkF m 189 #[.val (.int p1), .val (.long q2), .second, .val (.int p3), .val (.int p4), .val (.int p5), .val (.int cc), .val (.int (2 : Int32)), .val (.ref w8), .val (.ref b98), .val (.ref b109), .val (.ref b112), .val (.int (0 : Int32)), .val (.int (1 : Int32)), .val (.int (0 : Int32)), .val (.int (0 : Int32))] [(.int (0 : Int32)), (.int (0 : Int32))])) _
          refine XS.icmpNo X131.here hx rfl (hb hby at_189) rfl (teq ((by decide) : (0 : Int32) = (0 : Int32))).2 ?_
          refine XS.iconst X131.here hx rfl (hb hby at_192) ?_
          refine XS.goto X131.here hx rfl (pc0 := 193) (pc' := 197) rfl (hb hby at_193) (by decide) (by decide) ?_
          show Steps p.tables e below (T131.setTop (mkF m 197 #[.val (.int p1), .val (.long q2), .second, .val (.int p3), .val (.int p4), .val (.int p5), .val (.int cc), .val (.int (2 : Int32)), .val (.ref w8), .val (.ref b98), .val (.ref b109), .val (.ref b112), .val (.int (0 : Int32)), .val (.int (1 : Int32)), .val (.int (0 : Int32)), .val (.int (0 : Int32))] [(.int (1 : Int32))])) _
          exact retN X131 hx (t := .boolean) Bd.returns (by simp) (hb hby at_197) hr
        · show Qrm0 Z p1 q2 p3 p4 p5 w6 w7 w8 w9 h0 n0 _ T131.heap _
          exact ⟨rfl, N131⟩
    · by_cases hl : p4 < ((1 : Int32) + cc)
      · have f132 : Exa Z T116.heap b109 "com/example/runqueue/runqueue/Outcome" := ((P111_0.ext E112).keep K116)
        have f133 : Fld Z T116.heap b109 "com/example/runqueue/runqueue/Outcome" "state" "Lcom/example/runqueue/runqueue/Outcome$State;" (.ref w8) := ((P111_2.ext E112).keep K116 (ninS ne115 nin0))
        have f134 : Fld Z T116.heap b109 "com/example/runqueue/runqueue/Outcome" "job" "Lcom/example/runqueue/runqueue/Job;" (.ref b98) := ((P111_1.ext E112).keep K116 (ninS ne115 nin0))
        have f135 : Exa Z T116.heap b98 "com/example/runqueue/runqueue/Job" := ((f113.ext E112).keep K116)
        have f136 : Fld Z T116.heap b98 "com/example/runqueue/runqueue/Job" "maxAttempts" "I" (.int p3) := ((((P108_5.ext E109).keep K111 (ninS ne110 nin0)).ext E112).keep K116 (ninS ne114 nin0))
        have f137 : Fld Z T116.heap b109 "com/example/runqueue/runqueue/Outcome" "attempts" "I" (.int p4) := ((P111_3.ext E112).keep K116 (ninS ne115 nin0))
        obtain ⟨cq138, kq138, q138a, q138b, q138c⟩ := isOf hZ108 rfl P116_0
        obtain ⟨_, _, ⟨T138, L138, k138, n138⟩, -, X138, ⟨Lc138, hQ138, l138, y138, z138⟩, st138⟩ := X116.virtualBack hx (y := (⟨"com/example/runqueue/runqueue/Retries", "again", "(Lcom/example/runqueue/runqueue/Outcome;)Z"⟩ : MethodName)) (z := (⟨"com/example/runqueue/runqueue/Retries", "again", "(Lcom/example/runqueue/runqueue/Outcome;)Z"⟩ : MethodName)) hown108 (mvT hZ108 (hw _ (List.mem_of_getElem? (i := 69) rfl))) (mvT hZ108 (hw _ (List.mem_of_getElem? (i := 70) rfl))) (notFace_of_selects (args := #[]) (mvT hZ108 (hw _ (List.mem_of_getElem? (i := 72) rfl)))) (mvT hZ108 (hw _ (List.mem_of_getElem? (i := 72) rfl))) (mvT hZ108 (hw _ (List.mem_of_getElem? (i := 71) rfl))) (by decide) (backOf (W := 0) (rm7_8 l Z a0 hw [] b112 b109 w8 b98 p3 cc w7 p4 T116.heap n0 O116 f132 f133 f134 f135 f136 hm P116_1 S_FAILED (Ne.symm (Fld.ne F_FAILED F_TIMEOUT (by decide))) S_TIMEOUT f137 hl) hZ108 (hw _ (List.mem_of_getElem? (i := 73) rfl)) (hw _ (List.mem_of_getElem? (i := 60) rfl)) (by decide) (by decide)) q138a q138c (g := (mkF m 110 #[.val (.int p1), .val (.long q2), .second, .val (.int p3), .val (.int p4), .val (.int p5), .val (.int cc), .val (.int (2 : Int32)), .val (.ref w8), .val (.ref b98), .val (.ref b109), .val (.ref b112), .unset, .unset, .unset, .unset] [(.ref b109), (.ref b112)])) rfl (by rw [hml]; rfl) (Steps.refl _) (argsL := [(.ref b109)]) (rest := []) (lenOf pd_13 rfl) rfl (by show 2 * 0 + _ ≤ _; exact Nat.le_of_eq rfl) (hb hby at_110) (fun _ _ => ⟨rfl, rfl, (by decide : 15 + 0 ≤ _), (by decide : 99 + 0 ≤ _)⟩)
        dsimp only [Pt.U, Pt.locs, Pt.cells, Pt.slots] at X138 l138 y138 z138 st138 hQ138
        subst l138 y138 z138
        obtain ⟨rfl, Nq138, e138⟩ := hQ138
        have N138 := Fr.app N116 Nq138
        obtain ⟨fs, hr, hrun, hended, hREW⟩ := X138.leaveW (s := s) hS108 (by rw [e138]; exact (Nat.le_trans (Nat.le_trans (Nat.le_trans (Nat.le_trans (Nat.le_refl _) E109.1) K111.1) E112.1) K116.1)) (v := some (.int (1 : Int32))) (fun h => by rw [Bd.returns] at h; cases h)
        refine ⟨_, _, pre117 _ ?_, hrun, hended, _, _, rfl, ?_, hREW.1, hREW.2.1, hREW.2.2.1, hREW.2.2.2.mono (by decide) (by decide)⟩
        · show Steps p.tables e below (T116.setTop (mkF m 106 #[.val (.int p1), .val (.long q2), .second, .val (.int p3), .val (.int p4), .val (.int p5), .val (.int cc), .val (.int (2 : Int32)), .val (.ref w8), .val (.ref b98), .val (.ref b109), .val (.ref b112), .unset, .unset, .unset, .unset] [])) _
          refine XS.aload X116.here hx rfl (hb hby at_106) rfl rfl ?_
          refine XS.aload X116.here hx rfl (hb hby at_108) rfl rfl ?_
          show Steps p.tables e below (T116.setTop (mkF m 110 #[.val (.int p1), .val (.long q2), .second, .val (.int p3), .val (.int p4), .val (.int p5), .val (.int cc), .val (.int (2 : Int32)), .val (.ref w8), .val (.ref b98), .val (.ref b109), .val (.ref b112), .unset, .unset, .unset, .unset] [(.ref b109), (.ref b112)])) _
          refine st138.trans ?_
          show Steps p.tables e below (T138.setTop (mkF m 113 #[.val (.int p1), .val (.long q2), .second, .val (.int p3), .val (.int p4), .val (.int p5), .val (.int cc), .val (.int (2 : Int32)), .val (.ref w8), .val (.ref b98), .val (.ref b109), .val (.ref b112), .unset, .unset, .unset, .unset] [(.int (1 : Int32))])) _
          refine XS.istore X138.here hx rfl (hb hby at_113) rfl (l' := #[.val (.int p1), .val (.long q2), .second, .val (.int p3), .val (.int p4), .val (.int p5), .val (.int cc), .val (.int (2 : Int32)), .val (.ref w8), .val (.ref b98), .val (.ref b109), .val (.ref b112), .val (.int (1 : Int32)), .unset, .unset, .unset]) rfl ?_
          refine XS.iload X138.here hx rfl (hb hby at_115) rfl ?_
          refine XS.iconst X138.here hx rfl (hb hby at_117) ?_
          show Steps p.tables e below (T138.setTop (mkF m 118 #[.val (.int p1), .val (.long q2), .second, .val (.int p3), .val (.int p4), .val (.int p5), .val (.int cc), .val (.int (2 : Int32)), .val (.ref w8), .val (.ref b98), .val (.ref b109), .val (.ref b112), .val (.int (1 : Int32)), .unset, .unset, .unset] [(.int (1 : Int32)), (.int (2 : Int32))])) _
          refine XS.icmpNo X138.here hx rfl (hb hby at_118) rfl (feq ((by decide) : ¬ ((2 : Int32) = (1 : Int32)))).1 ?_
          refine XS.iload X138.here hx rfl (hb hby at_121) rfl ?_
          refine XS.iconst X138.here hx rfl (hb hby at_123) ?_
          show Steps p.tables e below (T138.setTop (mkF m 124 #[.val (.int p1), .val (.long q2), .second, .val (.int p3), .val (.int p4), .val (.int p5), .val (.int cc), .val (.int (2 : Int32)), .val (.ref w8), .val (.ref b98), .val (.ref b109), .val (.ref b112), .val (.int (1 : Int32)), .unset, .unset, .unset] [(.int (2 : Int32)), (.int (2 : Int32))])) _
          refine XS.icmpNo X138.here hx rfl (hb hby at_124) rfl (teq ((by decide) : (2 : Int32) = (2 : Int32))).2 ?_
          refine XS.iconst X138.here hx rfl (hb hby at_127) ?_
          refine XS.goto X138.here hx rfl (pc0 := 128) (pc' := 132) rfl (hb hby at_128) (by decide) (by decide) ?_
          show Steps p.tables e below (T138.setTop (mkF m 132 #[.val (.int p1), .val (.long q2), .second, .val (.int p3), .val (.int p4), .val (.int p5), .val (.int cc), .val (.int (2 : Int32)), .val (.ref w8), .val (.ref b98), .val (.ref b109), .val (.ref b112), .val (.int (1 : Int32)), .unset, .unset, .unset] [(.int (1 : Int32))])) _
          refine XS.istore X138.here hx rfl (hb hby at_132) rfl (l' := #[.val (.int p1), .val (.long q2), .second, .val (.int p3), .val (.int p4), .val (.int p5), .val (.int cc), .val (.int (2 : Int32)), .val (.ref w8), .val (.ref b98), .val (.ref b109), .val (.ref b112), .val (.int (1 : Int32)), .val (.int (1 : Int32)), .unset, .unset]) rfl ?_
          refine XS.iloadN X138.here hx rfl (hb hby at_134) rfl ?_
          show Steps p.tables e below (T138.setTop (mkF m 135 #[.val (.int p1), .val (.long q2), .second, .val (.int p3), .val (.int p4), .val (.int p5), .val (.int cc), .val (.int (2 : Int32)), .val (.ref w8), .val (.ref b98), .val (.ref b109), .val (.ref b112), .val (.int (1 : Int32)), .val (.int (1 : Int32)), .unset, .unset] [(.int p3)])) _
          refine XS.ifYes X138.here hx rfl (pc0 := 135) (pc' := 154) rfl (hb hby at_135) rfl ((if0 _ _).trans (flt (hm : ¬ ((0 : Int32) < p3))).2.2.2) (by decide) (by decide) ?_
          refine XS.iload X138.here hx rfl (hb hby at_154) rfl ?_
          refine XS.iload X138.here hx rfl (hb hby at_156) rfl ?_
          show Steps p.tables e below (T138.setTop (mkF m 158 #[.val (.int p1), .val (.long q2), .second, .val (.int p3), .val (.int p4), .val (.int p5), .val (.int cc), .val (.int (2 : Int32)), .val (.ref w8), .val (.ref b98), .val (.ref b109), .val (.ref b112), .val (.int (1 : Int32)), .val (.int (1 : Int32)), .unset, .unset] [(.int cc), (.int p4)])) _
          refine XS.icmpNo X138.here hx rfl (hb hby at_158) rfl (flt (((own_lim p1 p4 cc h_cc).mp hl) : ¬ (cc < p4))).2.2.1 ?_
          refine XS.iconst X138.here hx rfl (hb hby at_161) ?_
          refine XS.goto X138.here hx rfl (pc0 := 162) (pc' := 166) rfl (hb hby at_162) (by decide) (by decide) ?_
          show Steps p.tables e below (T138.setTop (mkF m 166 #[.val (.int p1), .val (.long q2), .second, .val (.int p3), .val (.int p4), .val (.int p5), .val (.int cc), .val (.int (2 : Int32)), .val (.ref w8), .val (.ref b98), .val (.ref b109), .val (.ref b112), .val (.int (1 : Int32)), .val (.int (1 : Int32)), .unset, .unset] [(.int (1 : Int32))])) _
          refine XS.istore X138.here hx rfl (hb hby at_166) rfl (l' := #[.val (.int p1), .val (.long q2), .second, .val (.int p3), .val (.int p4), .val (.int p5), .val (.int cc), .val (.int (2 : Int32)), .val (.ref w8), .val (.ref b98), .val (.ref b109), .val (.ref b112), .val (.int (1 : Int32)), .val (.int (1 : Int32)), .val (.int (1 : Int32)), .unset]) rfl ?_
          refine XS.iload X138.here hx rfl (hb hby at_168) rfl ?_
          show Steps p.tables e below (T138.setTop (mkF m 170 #[.val (.int p1), .val (.long q2), .second, .val (.int p3), .val (.int p4), .val (.int p5), .val (.int cc), .val (.int (2 : Int32)), .val (.ref w8), .val (.ref b98), .val (.ref b109), .val (.ref b112), .val (.int (1 : Int32)), .val (.int (1 : Int32)), .val (.int (1 : Int32)), .unset] [(.int (1 : Int32))])) _
          refine XS.ifNo X138.here hx rfl (hb hby at_170) rfl ((if0 _ _).trans (feq ((by decide) : ¬ ((1 : Int32) = (0 : Int32)))).1) ?_
          refine XS.iload X138.here hx rfl (hb hby at_173) rfl ?_
          show Steps p.tables e below (T138.setTop (mkF m 175 #[.val (.int p1), .val (.long q2), .second, .val (.int p3), .val (.int p4), .val (.int p5), .val (.int cc), .val (.int (2 : Int32)), .val (.ref w8), .val (.ref b98), .val (.ref b109), .val (.ref b112), .val (.int (1 : Int32)), .val (.int (1 : Int32)), .val (.int (1 : Int32)), .unset] [(.int (1 : Int32))])) _
          refine XS.ifNo X138.here hx rfl (hb hby at_175) rfl ((if0 _ _).trans (feq ((by decide) : ¬ ((1 : Int32) = (0 : Int32)))).1) ?_
          refine XS.iconst X138.here hx rfl (hb hby at_178) ?_
          refine XS.goto X138.here hx rfl (pc0 := 179) (pc' := 183) rfl (hb hby at_179) (by decide) (by decide) ?_
          show Steps p.tables e below (T138.setTop (mkF m 183 #[.val (.int p1), .val (.long q2), .second, .val (.int p3), .val (.int p4), .val (.int p5), .val (.int cc), .val (.int (2 : Int32)), .val (.ref w8), .val (.ref b98), .val (.ref b109), .val (.ref b112), .val (.int (1 : Int32)), .val (.int (1 : Int32)), .val (.int (1 : Int32)), .unset] [(.int (1 : Int32))])) _
          refine XS.istore X138.here hx rfl (hb hby at_183) rfl (l' := #[.val (.int p1), .val (.long q2), .second, .val (.int p3), .val (.int p4), .val (.int p5), .val (.int cc), .val (.int (2 : Int32)), .val (.ref w8), .val (.ref b98), .val (.ref b109), .val (.ref b112), .val (.int (1 : Int32)), .val (.int (1 : Int32)), .val (.int (1 : Int32)), .val (.int (1 : Int32))]) rfl ?_
          refine XS.iload X138.here hx rfl (hb hby at_185) rfl ?_
          refine XS.iload X138.here hx rfl (hb hby at_187) rfl ?_
          show Steps p.tables e below (T138.setTop (mkF m 189 #[.val (.int p1), .val (.long q2), .second, .val (.int p3), .val (.int p4), .val (.int p5), .val (.int cc), .val (.int (2 : Int32)), .val (.ref w8), .val (.ref b98), .val (.ref b109), .val (.ref b112), .val (.int (1 : Int32)), .val (.int (1 : Int32)), .val (.int (1 : Int32)), .val (.int (1 : Int32))] [(.int (1 : Int32)), (.int (1 : Int32))])) _
          refine XS.icmpNo X138.here hx rfl (hb hby at_189) rfl (teq ((by decide) : (1 : Int32) = (1 : Int32))).2 ?_
          refine XS.iconst X138.here hx rfl (hb hby at_192) ?_
          refine XS.goto X138.here hx rfl (pc0 := 193) (pc' := 197) rfl (hb hby at_193) (by decide) (by decide) ?_
          show Steps p.tables e below (T138.setTop (mkF m 197 #[.val (.int p1), .val (.long q2), .second, .val (.int p3), .val (.int p4), .val (.int p5), .val (.int cc), .val (.int (2 : Int32)), .val (.ref w8), .val (.ref b98), .val (.ref b109), .val (.ref b112), .val (.int (1 : Int32)), .val (.int (1 : Int32)), .val (.int (1 : Int32)), .val (.int (1 : Int32))] [(.int (1 : Int32))])) _
          exact retN X138 hx (t := .boolean) Bd.returns (by simp) (hb hby at_197) hr
        · show Qrm0 Z p1 q2 p3 p4 p5 w6 w7 w8 w9 h0 n0 _ T138.heap _
          exact ⟨rfl, N138⟩
      · have f139 : Exa Z T116.heap b109 "com/example/runqueue/runqueue/Outcome" := ((P111_0.ext E112).keep K116)
        have f140 : Fld Z T116.heap b109 "com/example/runqueue/runqueue/Outcome" "state" "Lcom/example/runqueue/runqueue/Outcome$State;" (.ref w8) := ((P111_2.ext E112).keep K116 (ninS ne115 nin0))
        have f141 : Fld Z T116.heap b109 "com/example/runqueue/runqueue/Outcome" "job" "Lcom/example/runqueue/runqueue/Job;" (.ref b98) := ((P111_1.ext E112).keep K116 (ninS ne115 nin0))
        have f142 : Exa Z T116.heap b98 "com/example/runqueue/runqueue/Job" := ((f113.ext E112).keep K116)
        have f143 : Fld Z T116.heap b98 "com/example/runqueue/runqueue/Job" "maxAttempts" "I" (.int p3) := ((((P108_5.ext E109).keep K111 (ninS ne110 nin0)).ext E112).keep K116 (ninS ne114 nin0))
        have f144 : Fld Z T116.heap b109 "com/example/runqueue/runqueue/Outcome" "attempts" "I" (.int p4) := ((P111_3.ext E112).keep K116 (ninS ne115 nin0))
        obtain ⟨cq145, kq145, q145a, q145b, q145c⟩ := isOf hZ108 rfl P116_0
        obtain ⟨_, _, ⟨T145, L145, k145, n145⟩, -, X145, ⟨Lc145, hQ145, l145, y145, z145⟩, st145⟩ := X116.virtualBack hx (y := (⟨"com/example/runqueue/runqueue/Retries", "again", "(Lcom/example/runqueue/runqueue/Outcome;)Z"⟩ : MethodName)) (z := (⟨"com/example/runqueue/runqueue/Retries", "again", "(Lcom/example/runqueue/runqueue/Outcome;)Z"⟩ : MethodName)) hown108 (mvT hZ108 (hw _ (List.mem_of_getElem? (i := 69) rfl))) (mvT hZ108 (hw _ (List.mem_of_getElem? (i := 70) rfl))) (notFace_of_selects (args := #[]) (mvT hZ108 (hw _ (List.mem_of_getElem? (i := 72) rfl)))) (mvT hZ108 (hw _ (List.mem_of_getElem? (i := 72) rfl))) (mvT hZ108 (hw _ (List.mem_of_getElem? (i := 71) rfl))) (by decide) (backOf (W := 0) (rm7_9 l Z a0 hw [] b112 b109 w8 b98 p3 cc w7 p4 T116.heap n0 O116 f139 f140 f141 f142 f143 hm P116_1 S_FAILED (Ne.symm (Fld.ne F_FAILED F_TIMEOUT (by decide))) S_TIMEOUT f144 hl) hZ108 (hw _ (List.mem_of_getElem? (i := 73) rfl)) (hw _ (List.mem_of_getElem? (i := 60) rfl)) (by decide) (by decide)) q145a q145c (g := (mkF m 110 #[.val (.int p1), .val (.long q2), .second, .val (.int p3), .val (.int p4), .val (.int p5), .val (.int cc), .val (.int (2 : Int32)), .val (.ref w8), .val (.ref b98), .val (.ref b109), .val (.ref b112), .unset, .unset, .unset, .unset] [(.ref b109), (.ref b112)])) rfl (by rw [hml]; rfl) (Steps.refl _) (argsL := [(.ref b109)]) (rest := []) (lenOf pd_13 rfl) rfl (by show 2 * 0 + _ ≤ _; exact Nat.le_of_eq rfl) (hb hby at_110) (fun _ _ => ⟨rfl, rfl, (by decide : 15 + 0 ≤ _), (by decide : 99 + 0 ≤ _)⟩)
        dsimp only [Pt.U, Pt.locs, Pt.cells, Pt.slots] at X145 l145 y145 z145 st145 hQ145
        subst l145 y145 z145
        obtain ⟨rfl, Nq145, e145⟩ := hQ145
        have N145 := Fr.app N116 Nq145
        obtain ⟨fs, hr, hrun, hended, hREW⟩ := X145.leaveW (s := s) hS108 (by rw [e145]; exact (Nat.le_trans (Nat.le_trans (Nat.le_trans (Nat.le_trans (Nat.le_refl _) E109.1) K111.1) E112.1) K116.1)) (v := some (.int (1 : Int32))) (fun h => by rw [Bd.returns] at h; cases h)
        refine ⟨_, _, pre117 _ ?_, hrun, hended, _, _, rfl, ?_, hREW.1, hREW.2.1, hREW.2.2.1, hREW.2.2.2.mono (by decide) (by decide)⟩
        · show Steps p.tables e below (T116.setTop (mkF m 106 #[.val (.int p1), .val (.long q2), .second, .val (.int p3), .val (.int p4), .val (.int p5), .val (.int cc), .val (.int (2 : Int32)), .val (.ref w8), .val (.ref b98), .val (.ref b109), .val (.ref b112), .unset, .unset, .unset, .unset] [])) _
          refine XS.aload X116.here hx rfl (hb hby at_106) rfl rfl ?_
          refine XS.aload X116.here hx rfl (hb hby at_108) rfl rfl ?_
          show Steps p.tables e below (T116.setTop (mkF m 110 #[.val (.int p1), .val (.long q2), .second, .val (.int p3), .val (.int p4), .val (.int p5), .val (.int cc), .val (.int (2 : Int32)), .val (.ref w8), .val (.ref b98), .val (.ref b109), .val (.ref b112), .unset, .unset, .unset, .unset] [(.ref b109), (.ref b112)])) _
          refine st145.trans ?_
          show Steps p.tables e below (T145.setTop (mkF m 113 #[.val (.int p1), .val (.long q2), .second, .val (.int p3), .val (.int p4), .val (.int p5), .val (.int cc), .val (.int (2 : Int32)), .val (.ref w8), .val (.ref b98), .val (.ref b109), .val (.ref b112), .unset, .unset, .unset, .unset] [(.int (0 : Int32))])) _
          refine XS.istore X145.here hx rfl (hb hby at_113) rfl (l' := #[.val (.int p1), .val (.long q2), .second, .val (.int p3), .val (.int p4), .val (.int p5), .val (.int cc), .val (.int (2 : Int32)), .val (.ref w8), .val (.ref b98), .val (.ref b109), .val (.ref b112), .val (.int (0 : Int32)), .unset, .unset, .unset]) rfl ?_
          refine XS.iload X145.here hx rfl (hb hby at_115) rfl ?_
          refine XS.iconst X145.here hx rfl (hb hby at_117) ?_
          show Steps p.tables e below (T145.setTop (mkF m 118 #[.val (.int p1), .val (.long q2), .second, .val (.int p3), .val (.int p4), .val (.int p5), .val (.int cc), .val (.int (2 : Int32)), .val (.ref w8), .val (.ref b98), .val (.ref b109), .val (.ref b112), .val (.int (0 : Int32)), .unset, .unset, .unset] [(.int (1 : Int32)), (.int (2 : Int32))])) _
          refine XS.icmpNo X145.here hx rfl (hb hby at_118) rfl (feq ((by decide) : ¬ ((2 : Int32) = (1 : Int32)))).1 ?_
          refine XS.iload X145.here hx rfl (hb hby at_121) rfl ?_
          refine XS.iconst X145.here hx rfl (hb hby at_123) ?_
          show Steps p.tables e below (T145.setTop (mkF m 124 #[.val (.int p1), .val (.long q2), .second, .val (.int p3), .val (.int p4), .val (.int p5), .val (.int cc), .val (.int (2 : Int32)), .val (.ref w8), .val (.ref b98), .val (.ref b109), .val (.ref b112), .val (.int (0 : Int32)), .unset, .unset, .unset] [(.int (2 : Int32)), (.int (2 : Int32))])) _
          refine XS.icmpNo X145.here hx rfl (hb hby at_124) rfl (teq ((by decide) : (2 : Int32) = (2 : Int32))).2 ?_
          refine XS.iconst X145.here hx rfl (hb hby at_127) ?_
          refine XS.goto X145.here hx rfl (pc0 := 128) (pc' := 132) rfl (hb hby at_128) (by decide) (by decide) ?_
          show Steps p.tables e below (T145.setTop (mkF m 132 #[.val (.int p1), .val (.long q2), .second, .val (.int p3), .val (.int p4), .val (.int p5), .val (.int cc), .val (.int (2 : Int32)), .val (.ref w8), .val (.ref b98), .val (.ref b109), .val (.ref b112), .val (.int (0 : Int32)), .unset, .unset, .unset] [(.int (1 : Int32))])) _
          refine XS.istore X145.here hx rfl (hb hby at_132) rfl (l' := #[.val (.int p1), .val (.long q2), .second, .val (.int p3), .val (.int p4), .val (.int p5), .val (.int cc), .val (.int (2 : Int32)), .val (.ref w8), .val (.ref b98), .val (.ref b109), .val (.ref b112), .val (.int (0 : Int32)), .val (.int (1 : Int32)), .unset, .unset]) rfl ?_
          refine XS.iloadN X145.here hx rfl (hb hby at_134) rfl ?_
          show Steps p.tables e below (T145.setTop (mkF m 135 #[.val (.int p1), .val (.long q2), .second, .val (.int p3), .val (.int p4), .val (.int p5), .val (.int cc), .val (.int (2 : Int32)), .val (.ref w8), .val (.ref b98), .val (.ref b109), .val (.ref b112), .val (.int (0 : Int32)), .val (.int (1 : Int32)), .unset, .unset] [(.int p3)])) _
          refine XS.ifYes X145.here hx rfl (pc0 := 135) (pc' := 154) rfl (hb hby at_135) rfl ((if0 _ _).trans (flt (hm : ¬ ((0 : Int32) < p3))).2.2.2) (by decide) (by decide) ?_
          refine XS.iload X145.here hx rfl (hb hby at_154) rfl ?_
          refine XS.iload X145.here hx rfl (hb hby at_156) rfl ?_
          show Steps p.tables e below (T145.setTop (mkF m 158 #[.val (.int p1), .val (.long q2), .second, .val (.int p3), .val (.int p4), .val (.int p5), .val (.int cc), .val (.int (2 : Int32)), .val (.ref w8), .val (.ref b98), .val (.ref b109), .val (.ref b112), .val (.int (0 : Int32)), .val (.int (1 : Int32)), .unset, .unset] [(.int cc), (.int p4)])) _
          refine XS.icmpYes X145.here hx rfl (pc0 := 158) (pc' := 165) rfl (hb hby at_158) rfl (tlt ((Decidable.of_not_not (fun q => hl ((own_lim p1 p4 cc h_cc).mpr q))) : cc < p4)).2.2.1 (by decide) (by decide) ?_
          refine XS.iconst X145.here hx rfl (hb hby at_165) ?_
          refine XS.istore X145.here hx rfl (hb hby at_166) rfl (l' := #[.val (.int p1), .val (.long q2), .second, .val (.int p3), .val (.int p4), .val (.int p5), .val (.int cc), .val (.int (2 : Int32)), .val (.ref w8), .val (.ref b98), .val (.ref b109), .val (.ref b112), .val (.int (0 : Int32)), .val (.int (1 : Int32)), .val (.int (0 : Int32)), .unset]) rfl ?_
          show Steps p.tables e below (T145.setTop (mkF m 168 #[.val (.int p1), .val (.long q2), .second, .val (.int p3), .val (.int p4), .val (.int p5), .val (.int cc), .val (.int (2 : Int32)), .val (.ref w8), .val (.ref b98), .val (.ref b109), .val (.ref b112), .val (.int (0 : Int32)), .val (.int (1 : Int32)), .val (.int (0 : Int32)), .unset] [])) _
          refine XS.iload X145.here hx rfl (hb hby at_168) rfl ?_
          show Steps p.tables e below (T145.setTop (mkF m 170 #[.val (.int p1), .val (.long q2), .second, .val (.int p3), .val (.int p4), .val (.int p5), .val (.int cc), .val (.int (2 : Int32)), .val (.ref w8), .val (.ref b98), .val (.ref b109), .val (.ref b112), .val (.int (0 : Int32)), .val (.int (1 : Int32)), .val (.int (0 : Int32)), .unset] [(.int (1 : Int32))])) _
          refine XS.ifNo X145.here hx rfl (hb hby at_170) rfl ((if0 _ _).trans (feq ((by decide) : ¬ ((1 : Int32) = (0 : Int32)))).1) ?_
          refine XS.iload X145.here hx rfl (hb hby at_173) rfl ?_
          show Steps p.tables e below (T145.setTop (mkF m 175 #[.val (.int p1), .val (.long q2), .second, .val (.int p3), .val (.int p4), .val (.int p5), .val (.int cc), .val (.int (2 : Int32)), .val (.ref w8), .val (.ref b98), .val (.ref b109), .val (.ref b112), .val (.int (0 : Int32)), .val (.int (1 : Int32)), .val (.int (0 : Int32)), .unset] [(.int (0 : Int32))])) _
          refine XS.ifYes X145.here hx rfl (pc0 := 175) (pc' := 182) rfl (hb hby at_175) rfl ((if0 _ _).trans (teq ((by decide) : (0 : Int32) = (0 : Int32))).1) (by decide) (by decide) ?_
          refine XS.iconst X145.here hx rfl (hb hby at_182) ?_
          refine XS.istore X145.here hx rfl (hb hby at_183) rfl (l' := #[.val (.int p1), .val (.long q2), .second, .val (.int p3), .val (.int p4), .val (.int p5), .val (.int cc), .val (.int (2 : Int32)), .val (.ref w8), .val (.ref b98), .val (.ref b109), .val (.ref b112), .val (.int (0 : Int32)), .val (.int (1 : Int32)), .val (.int (0 : Int32)), .val (.int (0 : Int32))]) rfl ?_
          show Steps p.tables e below (T145.setTop (mkF m 185 #[.val (.int p1), .val (.long q2), .second, .val (.int p3), .val (.int p4), .val (.int p5), .val (.int cc), .val (.int (2 : Int32)), .val (.ref w8), .val (.ref b98), .val (.ref b109), .val (.ref b112), .val (.int (0 : Int32)), .val (.int (1 : Int32)), .val (.int (0 : Int32)), .val (.int (0 : Int32))] [])) _
          refine XS.iload X145.here hx rfl (hb hby at_185) rfl ?_
          refine XS.iload X145.here hx rfl (hb hby at_187) rfl ?_
          show Steps p.tables e below (T145.setTop (mkF m 189 #[.val (.int p1), .val (.long q2), .second, .val (.int p3), .val (.int p4), .val (.int p5), .val (.int cc), .val (.int (2 : Int32)), .val (.ref w8), .val (.ref b98), .val (.ref b109), .val (.ref b112), .val (.int (0 : Int32)), .val (.int (1 : Int32)), .val (.int (0 : Int32)), .val (.int (0 : Int32))] [(.int (0 : Int32)), (.int (0 : Int32))])) _
          refine XS.icmpNo X145.here hx rfl (hb hby at_189) rfl (teq ((by decide) : (0 : Int32) = (0 : Int32))).2 ?_
          refine XS.iconst X145.here hx rfl (hb hby at_192) ?_
          refine XS.goto X145.here hx rfl (pc0 := 193) (pc' := 197) rfl (hb hby at_193) (by decide) (by decide) ?_
          show Steps p.tables e below (T145.setTop (mkF m 197 #[.val (.int p1), .val (.long q2), .second, .val (.int p3), .val (.int p4), .val (.int p5), .val (.int cc), .val (.int (2 : Int32)), .val (.ref w8), .val (.ref b98), .val (.ref b109), .val (.ref b112), .val (.int (0 : Int32)), .val (.int (1 : Int32)), .val (.int (0 : Int32)), .val (.int (0 : Int32))] [(.int (1 : Int32))])) _
          exact retN X145 hx (t := .boolean) Bd.returns (by simp) (hb hby at_197) hr
        · show Qrm0 Z p1 q2 p3 p4 p5 w6 w7 w8 w9 h0 n0 _ T145.heap _
          exact ⟨rfl, N145⟩
  · obtain ⟨T146, X146, e146, st146⟩ := getS2 X0 hx hZ hown (host := "") (Or.inl (hw _ (List.mem_of_getElem? (i := 1) rfl))) Via.refl e0 (S_SKIPPED.ext O0.2) (g := (mkF m 56 #[.val (.int p1), .val (.long q2), .second, .val (.int p3), .val (.int p4), .val (.int p5), .val (.int cc), .val (.int (3 : Int32)), .unset, .unset, .unset, .unset, .unset, .unset, .unset, .unset] [])) rfl (hb hby at_56)
    obtain ⟨T147, h147, X147, e147, E147, A147, D147, U147, st147⟩ := newO X146 hx hZ hown (hw _ (List.mem_of_getElem? (i := 4) rfl)) (hw _ (List.mem_of_getElem? (i := 5) rfl)) (hw _ (List.mem_of_getElem? (i := 6) rfl)) e146 (g := (mkF m 61 #[.val (.int p1), .val (.long q2), .second, .val (.int p3), .val (.int p4), .val (.int p5), .val (.int cc), .val (.int (3 : Int32)), .val (.ref w9), .unset, .unset, .unset, .unset, .unset, .unset, .unset] [])) rfl (hb hby at_61) (by decide) (by decide)
    obtain ⟨b147, g147⟩ : ∃ z, z = h0.size := ⟨_, rfl⟩
    rw [← g147] at A147 D147 U147 st147
    have g_b147 : n0 ≤ b147 := own_born O0 (own_eqle g147)
    have sz_b147 : h0.size ≤ b147 := Nat.le_trans (Keep.refl h0 []).1 (own_eqle g147)
    have K147 : Keep h0 h147 [] := (Keep.refl h0 []).ext E147
    have O147 : Old Z n0 h147 := O0.ext E147
    have F147_id : Fld Z h147 b147 "com/example/runqueue/runqueue/Job" "id" "Ljava/lang/String;" .null := D147 (Or.inr (hw _ (List.mem_of_getElem? (i := 34) rfl))) (ty := (.object "java/lang/String")) (by decide)
    have F147_name : Fld Z h147 b147 "com/example/runqueue/runqueue/Job" "name" "Ljava/lang/String;" .null := D147 (Or.inr (hw _ (List.mem_of_getElem? (i := 36) rfl))) (ty := (.object "java/lang/String")) (by decide)
    have F147_command : Fld Z h147 b147 "com/example/runqueue/runqueue/Job" "command" "Ljava/lang/String;" .null := D147 (Or.inr (hw _ (List.mem_of_getElem? (i := 38) rfl))) (ty := (.object "java/lang/String")) (by decide)
    have F147_timeoutMillis : Fld Z h147 b147 "com/example/runqueue/runqueue/Job" "timeoutMillis" "J" (.long (0 : Int64)) := D147 (Or.inr (hw _ (List.mem_of_getElem? (i := 40) rfl))) (ty := .long) (by decide)
    have F147_maxAttempts : Fld Z h147 b147 "com/example/runqueue/runqueue/Job" "maxAttempts" "I" (.int (0 : Int32)) := D147 (Or.inr (hw _ (List.mem_of_getElem? (i := 42) rfl))) (ty := .int) (by decide)
    obtain ⟨b148, T148, h148, k148, X148, e148, E148, hS148, hk148, hZ148, hown148, st148⟩ := ldcS (s := s) (vm0 := s.vm) X147 hx hZ hown (hw _ (List.mem_of_getElem? (i := 7) rfl)) (own_wS hw) e147 hS0 (Nat.le_trans (Nat.zero_le _) E147.1) (g := (mkF m 65 #[.val (.int p1), .val (.long q2), .second, .val (.int p3), .val (.int p4), .val (.int p5), .val (.int cc), .val (.int (3 : Int32)), .val (.ref w9), .unset, .unset, .unset, .unset, .unset, .unset, .unset] [(.ref b147), (.ref b147)])) rfl (hb hby at_65) (n := 4) (by decide) (by decide) (by decide) (by decide)
    have K148 : Keep h0 h148 [] := K147.ext E148
    have O148 : Old Z n0 h148 := O147.ext E148
    obtain ⟨b149, T149, h149, k149, X149, e149, E149, hS149, hk149, hZ149, hown149, st149⟩ := ldcS (s := s) (vm0 := T148.vm) X148 hx hZ148 hown148 (hw _ (List.mem_of_getElem? (i := 7) rfl)) (own_wS hw) e148 hS148 hk148 (g := (mkF m 67 #[.val (.int p1), .val (.long q2), .second, .val (.int p3), .val (.int p4), .val (.int p5), .val (.int cc), .val (.int (3 : Int32)), .val (.ref w9), .unset, .unset, .unset, .unset, .unset, .unset, .unset] [(.ref b148), (.ref b147), (.ref b147)])) rfl (hb hby at_67) (n := 4) (by decide) (by decide) (by decide) (by decide)
    have K149 : Keep h0 h149 [] := K148.ext E149
    have O149 : Old Z n0 h149 := O148.ext E149
    obtain ⟨b150, T150, h150, k150, X150, e150, E150, hS150, hk150, hZ150, hown150, st150⟩ := ldcS (s := s) (vm0 := T149.vm) X149 hx hZ149 hown149 (hw _ (List.mem_of_getElem? (i := 7) rfl)) (own_wS hw) e149 hS149 hk149 (g := (mkF m 69 #[.val (.int p1), .val (.long q2), .second, .val (.int p3), .val (.int p4), .val (.int p5), .val (.int cc), .val (.int (3 : Int32)), .val (.ref w9), .unset, .unset, .unset, .unset, .unset, .unset, .unset] [(.ref b149), (.ref b148), (.ref b147), (.ref b147)])) rfl (hb hby at_69) (n := 4) (by decide) (by decide) (by decide) (by decide)
    have K150 : Keep h0 h150 [] := K149.ext E150
    have O150 : Old Z n0 h150 := O149.ext E150
    have f151 : Exa Z h150 b147 "com/example/runqueue/runqueue/Job" := (((A147.ext E148).ext E149).ext E150)
    have f152 : Fld Z h150 b147 "com/example/runqueue/runqueue/Job" "id" "Ljava/lang/String;" .null := (((F147_id.ext E148).ext E149).ext E150)
    have f153 : Fld Z h150 b147 "com/example/runqueue/runqueue/Job" "name" "Ljava/lang/String;" .null := (((F147_name.ext E148).ext E149).ext E150)
    have f154 : Fld Z h150 b147 "com/example/runqueue/runqueue/Job" "command" "Ljava/lang/String;" .null := (((F147_command.ext E148).ext E149).ext E150)
    have f155 : Fld Z h150 b147 "com/example/runqueue/runqueue/Job" "timeoutMillis" "J" (.long (0 : Int64)) := (((F147_timeoutMillis.ext E148).ext E149).ext E150)
    have f156 : Fld Z h150 b147 "com/example/runqueue/runqueue/Job" "maxAttempts" "I" (.int (0 : Int32)) := (((F147_maxAttempts.ext E148).ext E149).ext E150)
    obtain ⟨_, _, ⟨T157, L157, k157, n157⟩, -, X157, h2157, hg157, ⟨Lc157, hQ157, l157, y157, z157⟩, st157⟩ := X150.specialBackS hx (y := (⟨"com/example/runqueue/runqueue/Job", "<init>", "(Ljava/lang/String;Ljava/lang/String;Ljava/lang/String;JI)V"⟩ : MethodName)) rfl hown150 (mvT hZ150 (hw _ (List.mem_of_getElem? (i := 15) rfl))) (mvT hZ150 (hw _ (List.mem_of_getElem? (i := 16) rfl))) (mvT hZ150 (hw _ (List.mem_of_getElem? (i := 17) rfl))) (by decide) (backOfS (W := 1) (rm1 l Z a0 hw [] b147 b148 b149 b150 p3 h150 n0 O150 f151 f152 g_b147 f153 f154 f155 f156) hZ150 (hw _ (List.mem_of_getElem? (i := 17) rfl)) (hw _ (List.mem_of_getElem? (i := 6) rfl)) (by decide) (by decide)) (g := (mkF m 73 #[.val (.int p1), .val (.long q2), .second, .val (.int p3), .val (.int p4), .val (.int p5), .val (.int cc), .val (.int (3 : Int32)), .val (.ref w9), .unset, .unset, .unset, .unset, .unset, .unset, .unset] [(.int p3), (.long (0 : Int64)), (.ref b150), (.ref b149), (.ref b148), (.ref b147), (.ref b147)])) rfl (by rw [hml]; rfl) (Steps.refl _) (a := b147) (argsL := [(.ref b148), (.ref b149), (.ref b150), (.long (0 : Int64)), (.int p3)]) (rest := [(.ref b147)]) (lenOf pd_5 rfl) rfl (by show 2 * 0 + _ ≤ _; exact Nat.le_of_eq rfl) (hb hby at_73) (fun _ _ => ⟨rfl, e150, (by decide : 7 + 6 ≤ _), (by decide : 29 + 64 ≤ _)⟩)
    dsimp only [Pt.U, Pt.locs, Pt.cells, Pt.slots] at X157 l157 y157 z157 st157 hQ157 h2157 hg157
    subst l157 y157 z157
    obtain ⟨X157, hS157, hZ157, hown157⟩ := rebS (s := s) (vm0 := T150.vm) hS150 (show _ ≤ T150.heap.size from (by rw [e150]; exact hk150)) X157 h2157 hg157 hZ150 hown150
    obtain ⟨rfl, Nq157, K157, P157_0, P157_1, P157_2, P157_3, P157_4, P157_5⟩ := hQ157
    have N157 := Fr.app N0 Nq157
    have KK157 : Keep h0 T157.heap [] := Keep.trans (h := h150) K150 K157 (allS (Or.inr sz_b147) all0)
    have O157 : Old Z n0 T157.heap := O150.keep K157 (allS g_b147 all0)
    obtain ⟨T158, h158, X158, e158, E158, A158, D158, U158, st158⟩ := newO X157 hx hZ157 hown157 (hw _ (List.mem_of_getElem? (i := 43) rfl)) (hw _ (List.mem_of_getElem? (i := 44) rfl)) (hw _ (List.mem_of_getElem? (i := 45) rfl)) rfl (g := (mkF m 78 #[.val (.int p1), .val (.long q2), .second, .val (.int p3), .val (.int p4), .val (.int p5), .val (.int cc), .val (.int (3 : Int32)), .val (.ref w9), .val (.ref b147), .unset, .unset, .unset, .unset, .unset, .unset] [])) rfl (hb hby at_78) (by decide) (by decide)
    obtain ⟨b158, g158⟩ : ∃ z, z = T157.heap.size := ⟨_, rfl⟩
    rw [← g158] at A158 D158 U158 st158
    have ne159 : b147 ≠ b158 := (own_ltn P157_0.lt (own_eqle g158))
    have g_b158 : n0 ≤ b158 := own_born O157 (own_eqle g158)
    have sz_b158 : h0.size ≤ b158 := Nat.le_trans KK157.1 (own_eqle g158)
    have K158 : Keep h0 h158 [] := KK157.ext E158
    have O158 : Old Z n0 h158 := O157.ext E158
    have F158_job : Fld Z h158 b158 "com/example/runqueue/runqueue/Outcome" "job" "Lcom/example/runqueue/runqueue/Job;" .null := D158 (Or.inr (hw _ (List.mem_of_getElem? (i := 51) rfl))) (ty := (.object "com/example/runqueue/runqueue/Job")) (by decide)
    have F158_state : Fld Z h158 b158 "com/example/runqueue/runqueue/Outcome" "state" "Lcom/example/runqueue/runqueue/Outcome$State;" .null := D158 (Or.inr (hw _ (List.mem_of_getElem? (i := 53) rfl))) (ty := (.object "com/example/runqueue/runqueue/Outcome$State")) (by decide)
    have F158_attempts : Fld Z h158 b158 "com/example/runqueue/runqueue/Outcome" "attempts" "I" (.int (0 : Int32)) := D158 (Or.inr (hw _ (List.mem_of_getElem? (i := 55) rfl))) (ty := .int) (by decide)
    have F158_last : Fld Z h158 b158 "com/example/runqueue/runqueue/Outcome" "last" "Lcom/example/runqueue/runqueue/Outcome$Run;" .null := D158 (Or.inr (hw _ (List.mem_of_getElem? (i := 57) rfl))) (ty := (.object "com/example/runqueue/runqueue/Outcome$Run")) (by decide)
    obtain ⟨_, _, ⟨T160, L160, k160, n160⟩, -, X160, ⟨Lc160, hQ160, l160, y160, z160⟩, st160⟩ := X158.specialBack hx (y := (⟨"com/example/runqueue/runqueue/Outcome", "<init>", "(Lcom/example/runqueue/runqueue/Job;Lcom/example/runqueue/runqueue/Outcome$State;ILcom/example/runqueue/runqueue/Outcome$Run;)V"⟩ : MethodName)) rfl hown157 (mvT hZ157 (hw _ (List.mem_of_getElem? (i := 46) rfl))) (mvT hZ157 (hw _ (List.mem_of_getElem? (i := 47) rfl))) (mvT hZ157 (hw _ (List.mem_of_getElem? (i := 48) rfl))) (by decide) (backOf (W := 1) (rm5 l Z a0 hw [] b158 b147 w9 p4 h158 n0 O158 A158 F158_job g_b158 F158_state F158_attempts F158_last) hZ157 (hw _ (List.mem_of_getElem? (i := 48) rfl)) (hw _ (List.mem_of_getElem? (i := 45) rfl)) (by decide) (by decide)) (g := (mkF m 89 #[.val (.int p1), .val (.long q2), .second, .val (.int p3), .val (.int p4), .val (.int p5), .val (.int cc), .val (.int (3 : Int32)), .val (.ref w9), .val (.ref b147), .unset, .unset, .unset, .unset, .unset, .unset] [.null, (.int p4), (.ref w9), (.ref b147), (.ref b158), (.ref b158)])) rfl (by rw [hml]; rfl) (Steps.refl _) (a := b158) (argsL := [(.ref b147), (.ref w9), (.int p4), .null]) (rest := [(.ref b158)]) (lenOf pd_7 rfl) rfl (by show 2 * 0 + _ ≤ _; exact Nat.le_of_eq rfl) (hb hby at_89) (fun _ _ => ⟨rfl, e158, (by decide : 14 + 0 ≤ _), (by decide : 97 + 0 ≤ _)⟩)
    dsimp only [Pt.U, Pt.locs, Pt.cells, Pt.slots] at X160 l160 y160 z160 st160 hQ160
    subst l160 y160 z160
    obtain ⟨rfl, Nq160, K160, P160_0, P160_1, P160_2, P160_3, P160_4⟩ := hQ160
    have N160 := Fr.app N157 Nq160
    have KK160 : Keep h0 T160.heap [] := Keep.trans (h := h158) K158 K160 (allS (Or.inr sz_b158) all0)
    have O160 : Old Z n0 T160.heap := O158.keep K160 (allS g_b158 all0)
    obtain ⟨T161, h161, X161, e161, E161, A161, D161, U161, st161⟩ := newO X160 hx hZ157 hown157 (hw _ (List.mem_of_getElem? (i := 58) rfl)) (hw _ (List.mem_of_getElem? (i := 59) rfl)) (hw _ (List.mem_of_getElem? (i := 60) rfl)) rfl (g := (mkF m 94 #[.val (.int p1), .val (.long q2), .second, .val (.int p3), .val (.int p4), .val (.int p5), .val (.int cc), .val (.int (3 : Int32)), .val (.ref w9), .val (.ref b147), .val (.ref b158), .unset, .unset, .unset, .unset, .unset] [])) rfl (hb hby at_94) (by decide) (by decide)
    obtain ⟨b161, g161⟩ : ∃ z, z = T160.heap.size := ⟨_, rfl⟩
    rw [← g161] at A161 D161 U161 st161
    have f162 : Exa Z T160.heap b147 "com/example/runqueue/runqueue/Job" := ((P157_0.ext E158).keep K160)
    have ne163 : b147 ≠ b161 := (own_ltn f162.lt (own_eqle g161))
    have ne164 : b158 ≠ b161 := (own_ltn P160_0.lt (own_eqle g161))
    have g_b161 : n0 ≤ b161 := own_born O160 (own_eqle g161)
    have sz_b161 : h0.size ≤ b161 := Nat.le_trans KK160.1 (own_eqle g161)
    have K161 : Keep h0 h161 [] := KK160.ext E161
    have O161 : Old Z n0 h161 := O160.ext E161
    have F161_count : Fld Z h161 b161 "com/example/runqueue/runqueue/Retries" "count" "I" (.int (0 : Int32)) := D161 (Or.inr (hw _ (List.mem_of_getElem? (i := 66) rfl))) (ty := .int) (by decide)
    have F161_backoffMillis : Fld Z h161 b161 "com/example/runqueue/runqueue/Retries" "backoffMillis" "J" (.long (0 : Int64)) := D161 (Or.inr (hw _ (List.mem_of_getElem? (i := 68) rfl))) (ty := .long) (by decide)
    obtain ⟨_, _, ⟨T165, L165, k165, n165⟩, -, X165, ⟨Lc165, hQ165, l165, y165, z165⟩, st165⟩ := X161.specialBack hx (y := (⟨"com/example/runqueue/runqueue/Retries", "<init>", "(IJ)V"⟩ : MethodName)) rfl hown157 (mvT hZ157 (hw _ (List.mem_of_getElem? (i := 61) rfl))) (mvT hZ157 (hw _ (List.mem_of_getElem? (i := 62) rfl))) (mvT hZ157 (hw _ (List.mem_of_getElem? (i := 63) rfl))) (by decide) (backOf (W := 1) (rm6 l Z a0 hw [] b161 cc q2 h161 n0 O161 A161 F161_count g_b161 F161_backoffMillis) hZ157 (hw _ (List.mem_of_getElem? (i := 63) rfl)) (hw _ (List.mem_of_getElem? (i := 60) rfl)) (by decide) (by decide)) (g := (mkF m 101 #[.val (.int p1), .val (.long q2), .second, .val (.int p3), .val (.int p4), .val (.int p5), .val (.int cc), .val (.int (3 : Int32)), .val (.ref w9), .val (.ref b147), .val (.ref b158), .unset, .unset, .unset, .unset, .unset] [(.long q2), (.int cc), (.ref b161), (.ref b161)])) rfl (by rw [hml]; rfl) (Steps.refl _) (a := b161) (argsL := [(.int cc), (.long q2)]) (rest := [(.ref b161)]) (lenOf pd_9 rfl) rfl (by show 2 * 0 + _ ≤ _; exact Nat.le_of_eq rfl) (hb hby at_101) (fun _ _ => ⟨rfl, e161, (by decide : 15 + 0 ≤ _), (by decide : 99 + 0 ≤ _)⟩)
    dsimp only [Pt.U, Pt.locs, Pt.cells, Pt.slots] at X165 l165 y165 z165 st165 hQ165
    subst l165 y165 z165
    obtain ⟨rfl, Nq165, K165, P165_0, P165_1, P165_2⟩ := hQ165
    have N165 := Fr.app N160 Nq165
    have KK165 : Keep h0 T165.heap [] := Keep.trans (h := h161) K161 K165 (allS (Or.inr sz_b161) all0)
    have O165 : Old Z n0 T165.heap := O161.keep K165 (allS g_b161 all0)
    have pre166 : ∀ t, Steps p.tables e below (T165.setTop (mkF m 106 #[.val (.int p1), .val (.long q2), .second, .val (.int p3), .val (.int p4), .val (.int p5), .val (.int cc), .val (.int (3 : Int32)), .val (.ref w9), .val (.ref b147), .val (.ref b158), .val (.ref b161), .unset, .unset, .unset, .unset] [])) t → Steps p.tables e below (s₁.setTop (entryFrame m #[(.int p1), (.long q2), (.int p3), (.int p4), (.int p5)] maxLocals)) t := fun t kt => pre10 t (by
      show Steps p.tables e below (s₁.setTop (mkF m 15 #[.val (.int p1), .val (.long q2), .second, .val (.int p3), .val (.int p4), .val (.int p5), .val (.int cc), .val (.int (p5 &&& (3 : Int32))), .unset, .unset, .unset, .unset, .unset, .unset, .unset, .unset] [])) _
      rw [hk]
      show Steps p.tables e below (s₁.setTop (mkF m 15 #[.val (.int p1), .val (.long q2), .second, .val (.int p3), .val (.int p4), .val (.int p5), .val (.int cc), .val (.int (3 : Int32)), .unset, .unset, .unset, .unset, .unset, .unset, .unset, .unset] [])) _
      refine XS.iload X0.here hx rfl (hb hby at_15) rfl ?_
      show Steps p.tables e below (s₁.setTop (mkF m 17 #[.val (.int p1), .val (.long q2), .second, .val (.int p3), .val (.int p4), .val (.int p5), .val (.int cc), .val (.int (3 : Int32)), .unset, .unset, .unset, .unset, .unset, .unset, .unset, .unset] [(.int (3 : Int32))])) _
      refine XS.ifYes X0.here hx rfl (pc0 := 17) (pc' := 28) rfl (hb hby at_17) rfl ((if0 _ _).trans (feq ((by decide) : ¬ ((3 : Int32) = (0 : Int32)))).2) (by decide) (by decide) ?_
      refine XS.iload X0.here hx rfl (hb hby at_28) rfl ?_
      refine XS.iconst X0.here hx rfl (hb hby at_30) ?_
      show Steps p.tables e below (s₁.setTop (mkF m 31 #[.val (.int p1), .val (.long q2), .second, .val (.int p3), .val (.int p4), .val (.int p5), .val (.int cc), .val (.int (3 : Int32)), .unset, .unset, .unset, .unset, .unset, .unset, .unset, .unset] [(.int (1 : Int32)), (.int (3 : Int32))])) _
      refine XS.icmpYes X0.here hx rfl (pc0 := 31) (pc' := 42) rfl (hb hby at_31) rfl (feq ((by decide) : ¬ ((3 : Int32) = (1 : Int32)))).2 (by decide) (by decide) ?_
      refine XS.iload X0.here hx rfl (hb hby at_42) rfl ?_
      refine XS.iconst X0.here hx rfl (hb hby at_44) ?_
      show Steps p.tables e below (s₁.setTop (mkF m 45 #[.val (.int p1), .val (.long q2), .second, .val (.int p3), .val (.int p4), .val (.int p5), .val (.int cc), .val (.int (3 : Int32)), .unset, .unset, .unset, .unset, .unset, .unset, .unset, .unset] [(.int (2 : Int32)), (.int (3 : Int32))])) _
      refine XS.icmpYes X0.here hx rfl (pc0 := 45) (pc' := 56) rfl (hb hby at_45) rfl (feq ((by decide) : ¬ ((3 : Int32) = (2 : Int32)))).2 (by decide) (by decide) ?_
      show Steps p.tables e below (s₁.setTop (mkF m 56 #[.val (.int p1), .val (.long q2), .second, .val (.int p3), .val (.int p4), .val (.int p5), .val (.int cc), .val (.int (3 : Int32)), .unset, .unset, .unset, .unset, .unset, .unset, .unset, .unset] [])) _
      refine st146 _ ?_
      show Steps p.tables e below (T146.setTop (mkF m 59 #[.val (.int p1), .val (.long q2), .second, .val (.int p3), .val (.int p4), .val (.int p5), .val (.int cc), .val (.int (3 : Int32)), .unset, .unset, .unset, .unset, .unset, .unset, .unset, .unset] [(.ref w9)])) _
      refine XS.astore X146.here hx rfl (hb hby at_59) rfl rfl (l' := #[.val (.int p1), .val (.long q2), .second, .val (.int p3), .val (.int p4), .val (.int p5), .val (.int cc), .val (.int (3 : Int32)), .val (.ref w9), .unset, .unset, .unset, .unset, .unset, .unset, .unset]) rfl ?_
      show Steps p.tables e below (T146.setTop (mkF m 61 #[.val (.int p1), .val (.long q2), .second, .val (.int p3), .val (.int p4), .val (.int p5), .val (.int cc), .val (.int (3 : Int32)), .val (.ref w9), .unset, .unset, .unset, .unset, .unset, .unset, .unset] [])) _
      refine st147 _ ?_
      show Steps p.tables e below (T147.setTop (mkF m 64 #[.val (.int p1), .val (.long q2), .second, .val (.int p3), .val (.int p4), .val (.int p5), .val (.int cc), .val (.int (3 : Int32)), .val (.ref w9), .unset, .unset, .unset, .unset, .unset, .unset, .unset] [(.ref b147)])) _
      refine XS.dup X147.here hx rfl (hb hby at_64) rfl rfl ?_
      refine st148 _ ?_
      show Steps p.tables e below (T148.setTop (mkF m 67 #[.val (.int p1), .val (.long q2), .second, .val (.int p3), .val (.int p4), .val (.int p5), .val (.int cc), .val (.int (3 : Int32)), .val (.ref w9), .unset, .unset, .unset, .unset, .unset, .unset, .unset] [(.ref b148), (.ref b147), (.ref b147)])) _
      refine st149 _ ?_
      show Steps p.tables e below (T149.setTop (mkF m 69 #[.val (.int p1), .val (.long q2), .second, .val (.int p3), .val (.int p4), .val (.int p5), .val (.int cc), .val (.int (3 : Int32)), .val (.ref w9), .unset, .unset, .unset, .unset, .unset, .unset, .unset] [(.ref b149), (.ref b148), (.ref b147), (.ref b147)])) _
      refine st150 _ ?_
      show Steps p.tables e below (T150.setTop (mkF m 71 #[.val (.int p1), .val (.long q2), .second, .val (.int p3), .val (.int p4), .val (.int p5), .val (.int cc), .val (.int (3 : Int32)), .val (.ref w9), .unset, .unset, .unset, .unset, .unset, .unset, .unset] [(.ref b150), (.ref b149), (.ref b148), (.ref b147), (.ref b147)])) _
      refine XS.lconst X150.here hx rfl (hb hby at_71) ?_
      refine XS.iloadN X150.here hx rfl (hb hby at_72) rfl ?_
      show Steps p.tables e below (T150.setTop (mkF m 73 #[.val (.int p1), .val (.long q2), .second, .val (.int p3), .val (.int p4), .val (.int p5), .val (.int cc), .val (.int (3 : Int32)), .val (.ref w9), .unset, .unset, .unset, .unset, .unset, .unset, .unset] [(.int p3), (.long (0 : Int64)), (.ref b150), (.ref b149), (.ref b148), (.ref b147), (.ref b147)])) _
      refine st157.trans ?_
      show Steps p.tables e below (T157.setTop (mkF m 76 #[.val (.int p1), .val (.long q2), .second, .val (.int p3), .val (.int p4), .val (.int p5), .val (.int cc), .val (.int (3 : Int32)), .val (.ref w9), .unset, .unset, .unset, .unset, .unset, .unset, .unset] [(.ref b147)])) _
      refine XS.astore X157.here hx rfl (hb hby at_76) rfl rfl (l' := #[.val (.int p1), .val (.long q2), .second, .val (.int p3), .val (.int p4), .val (.int p5), .val (.int cc), .val (.int (3 : Int32)), .val (.ref w9), .val (.ref b147), .unset, .unset, .unset, .unset, .unset, .unset]) rfl ?_
      show Steps p.tables e below (T157.setTop (mkF m 78 #[.val (.int p1), .val (.long q2), .second, .val (.int p3), .val (.int p4), .val (.int p5), .val (.int cc), .val (.int (3 : Int32)), .val (.ref w9), .val (.ref b147), .unset, .unset, .unset, .unset, .unset, .unset] [])) _
      refine st158 _ ?_
      show Steps p.tables e below (T158.setTop (mkF m 81 #[.val (.int p1), .val (.long q2), .second, .val (.int p3), .val (.int p4), .val (.int p5), .val (.int cc), .val (.int (3 : Int32)), .val (.ref w9), .val (.ref b147), .unset, .unset, .unset, .unset, .unset, .unset] [(.ref b158)])) _
      refine XS.dup X158.here hx rfl (hb hby at_81) rfl rfl ?_
      refine XS.aload X158.here hx rfl (hb hby at_82) rfl rfl ?_
      refine XS.aload X158.here hx rfl (hb hby at_84) rfl rfl ?_
      show Steps p.tables e below (T158.setTop (mkF m 86 #[.val (.int p1), .val (.long q2), .second, .val (.int p3), .val (.int p4), .val (.int p5), .val (.int cc), .val (.int (3 : Int32)), .val (.ref w9), .val (.ref b147), .unset, .unset, .unset, .unset, .unset, .unset] [(.ref w9), (.ref b147), (.ref b158), (.ref b158)])) _
      refine XS.iload X158.here hx rfl (hb hby at_86) rfl ?_
      refine XS.aconstNull X158.here hx rfl (hb hby at_88) ?_
      show Steps p.tables e below (T158.setTop (mkF m 89 #[.val (.int p1), .val (.long q2), .second, .val (.int p3), .val (.int p4), .val (.int p5), .val (.int cc), .val (.int (3 : Int32)), .val (.ref w9), .val (.ref b147), .unset, .unset, .unset, .unset, .unset, .unset] [.null, (.int p4), (.ref w9), (.ref b147), (.ref b158), (.ref b158)])) _
      refine st160.trans ?_
      show Steps p.tables e below (T160.setTop (mkF m 92 #[.val (.int p1), .val (.long q2), .second, .val (.int p3), .val (.int p4), .val (.int p5), .val (.int cc), .val (.int (3 : Int32)), .val (.ref w9), .val (.ref b147), .unset, .unset, .unset, .unset, .unset, .unset] [(.ref b158)])) _
      refine XS.astore X160.here hx rfl (hb hby at_92) rfl rfl (l' := #[.val (.int p1), .val (.long q2), .second, .val (.int p3), .val (.int p4), .val (.int p5), .val (.int cc), .val (.int (3 : Int32)), .val (.ref w9), .val (.ref b147), .val (.ref b158), .unset, .unset, .unset, .unset, .unset]) rfl ?_
      show Steps p.tables e below (T160.setTop (mkF m 94 #[.val (.int p1), .val (.long q2), .second, .val (.int p3), .val (.int p4), .val (.int p5), .val (.int cc), .val (.int (3 : Int32)), .val (.ref w9), .val (.ref b147), .val (.ref b158), .unset, .unset, .unset, .unset, .unset] [])) _
      refine st161 _ ?_
      show Steps p.tables e below (T161.setTop (mkF m 97 #[.val (.int p1), .val (.long q2), .second, .val (.int p3), .val (.int p4), .val (.int p5), .val (.int cc), .val (.int (3 : Int32)), .val (.ref w9), .val (.ref b147), .val (.ref b158), .unset, .unset, .unset, .unset, .unset] [(.ref b161)])) _
      refine XS.dup X161.here hx rfl (hb hby at_97) rfl rfl ?_
      refine XS.iload X161.here hx rfl (hb hby at_98) rfl ?_
      refine XS.lloadN X161.here hx rfl (hb hby at_100) rfl ?_
      show Steps p.tables e below (T161.setTop (mkF m 101 #[.val (.int p1), .val (.long q2), .second, .val (.int p3), .val (.int p4), .val (.int p5), .val (.int cc), .val (.int (3 : Int32)), .val (.ref w9), .val (.ref b147), .val (.ref b158), .unset, .unset, .unset, .unset, .unset] [(.long q2), (.int cc), (.ref b161), (.ref b161)])) _
      refine st165.trans ?_
      show Steps p.tables e below (T165.setTop (mkF m 104 #[.val (.int p1), .val (.long q2), .second, .val (.int p3), .val (.int p4), .val (.int p5), .val (.int cc), .val (.int (3 : Int32)), .val (.ref w9), .val (.ref b147), .val (.ref b158), .unset, .unset, .unset, .unset, .unset] [(.ref b161)])) _
      refine XS.astore X165.here hx rfl (hb hby at_104) rfl rfl (l' := #[.val (.int p1), .val (.long q2), .second, .val (.int p3), .val (.int p4), .val (.int p5), .val (.int cc), .val (.int (3 : Int32)), .val (.ref w9), .val (.ref b147), .val (.ref b158), .val (.ref b161), .unset, .unset, .unset, .unset]) rfl ?_
      exact kt)
    by_cases hm : (0 : Int32) < p3
    · have f167 : Exa Z T165.heap b158 "com/example/runqueue/runqueue/Outcome" := ((P160_0.ext E161).keep K165)
      have f168 : Fld Z T165.heap b158 "com/example/runqueue/runqueue/Outcome" "state" "Lcom/example/runqueue/runqueue/Outcome$State;" (.ref w9) := ((P160_2.ext E161).keep K165 (ninS ne164 nin0))
      have f169 : Fld Z T165.heap b158 "com/example/runqueue/runqueue/Outcome" "job" "Lcom/example/runqueue/runqueue/Job;" (.ref b147) := ((P160_1.ext E161).keep K165 (ninS ne164 nin0))
      have f170 : Exa Z T165.heap b147 "com/example/runqueue/runqueue/Job" := ((f162.ext E161).keep K165)
      have f171 : Fld Z T165.heap b147 "com/example/runqueue/runqueue/Job" "maxAttempts" "I" (.int p3) := ((((P157_5.ext E158).keep K160 (ninS ne159 nin0)).ext E161).keep K165 (ninS ne163 nin0))
      obtain ⟨cq172, kq172, q172a, q172b, q172c⟩ := isOf hZ157 rfl P165_0
      obtain ⟨_, _, ⟨T172, L172, k172, n172⟩, -, X172, ⟨Lc172, hQ172, l172, y172, z172⟩, st172⟩ := X165.virtualBack hx (y := (⟨"com/example/runqueue/runqueue/Retries", "again", "(Lcom/example/runqueue/runqueue/Outcome;)Z"⟩ : MethodName)) (z := (⟨"com/example/runqueue/runqueue/Retries", "again", "(Lcom/example/runqueue/runqueue/Outcome;)Z"⟩ : MethodName)) hown157 (mvT hZ157 (hw _ (List.mem_of_getElem? (i := 69) rfl))) (mvT hZ157 (hw _ (List.mem_of_getElem? (i := 70) rfl))) (notFace_of_selects (args := #[]) (mvT hZ157 (hw _ (List.mem_of_getElem? (i := 72) rfl)))) (mvT hZ157 (hw _ (List.mem_of_getElem? (i := 72) rfl))) (mvT hZ157 (hw _ (List.mem_of_getElem? (i := 71) rfl))) (by decide) (backOf (W := 0) (rm7 l Z a0 hw [] b161 b158 w9 b147 p3 w7 w8 T165.heap n0 O165 f167 f168 f169 f170 f171 hm S_FAILED (Ne.symm (Fld.ne F_FAILED F_SKIPPED (by decide))) S_TIMEOUT (Ne.symm (Fld.ne F_TIMEOUT F_SKIPPED (by decide)))) hZ157 (hw _ (List.mem_of_getElem? (i := 73) rfl)) (hw _ (List.mem_of_getElem? (i := 60) rfl)) (by decide) (by decide)) q172a q172c (g := (mkF m 110 #[.val (.int p1), .val (.long q2), .second, .val (.int p3), .val (.int p4), .val (.int p5), .val (.int cc), .val (.int (3 : Int32)), .val (.ref w9), .val (.ref b147), .val (.ref b158), .val (.ref b161), .unset, .unset, .unset, .unset] [(.ref b158), (.ref b161)])) rfl (by rw [hml]; rfl) (Steps.refl _) (argsL := [(.ref b158)]) (rest := []) (lenOf pd_13 rfl) rfl (by show 2 * 0 + _ ≤ _; exact Nat.le_of_eq rfl) (hb hby at_110) (fun _ _ => ⟨rfl, rfl, (by decide : 15 + 0 ≤ _), (by decide : 99 + 0 ≤ _)⟩)
      dsimp only [Pt.U, Pt.locs, Pt.cells, Pt.slots] at X172 l172 y172 z172 st172 hQ172
      subst l172 y172 z172
      obtain ⟨rfl, Nq172, e172⟩ := hQ172
      have N172 := Fr.app N165 Nq172
      have pre173 : ∀ t, Steps p.tables e below (T172.setTop (mkF m 141 #[.val (.int p1), .val (.long q2), .second, .val (.int p3), .val (.int p4), .val (.int p5), .val (.int cc), .val (.int (3 : Int32)), .val (.ref w9), .val (.ref b147), .val (.ref b158), .val (.ref b161), .val (.int (0 : Int32)), .val (.int (0 : Int32)), .unset, .unset] [(.int p3), (.int p4)])) t → Steps p.tables e below (s₁.setTop (entryFrame m #[(.int p1), (.long q2), (.int p3), (.int p4), (.int p5)] maxLocals)) t := fun t kt => pre166 t (by
        show Steps p.tables e below (T165.setTop (mkF m 106 #[.val (.int p1), .val (.long q2), .second, .val (.int p3), .val (.int p4), .val (.int p5), .val (.int cc), .val (.int (3 : Int32)), .val (.ref w9), .val (.ref b147), .val (.ref b158), .val (.ref b161), .unset, .unset, .unset, .unset] [])) _
        refine XS.aload X165.here hx rfl (hb hby at_106) rfl rfl ?_
        refine XS.aload X165.here hx rfl (hb hby at_108) rfl rfl ?_
        show Steps p.tables e below (T165.setTop (mkF m 110 #[.val (.int p1), .val (.long q2), .second, .val (.int p3), .val (.int p4), .val (.int p5), .val (.int cc), .val (.int (3 : Int32)), .val (.ref w9), .val (.ref b147), .val (.ref b158), .val (.ref b161), .unset, .unset, .unset, .unset] [(.ref b158), (.ref b161)])) _
        refine st172.trans ?_
        show Steps p.tables e below (T172.setTop (mkF m 113 #[.val (.int p1), .val (.long q2), .second, .val (.int p3), .val (.int p4), .val (.int p5), .val (.int cc), .val (.int (3 : Int32)), .val (.ref w9), .val (.ref b147), .val (.ref b158), .val (.ref b161), .unset, .unset, .unset, .unset] [(.int (0 : Int32))])) _
        refine XS.istore X172.here hx rfl (hb hby at_113) rfl (l' := #[.val (.int p1), .val (.long q2), .second, .val (.int p3), .val (.int p4), .val (.int p5), .val (.int cc), .val (.int (3 : Int32)), .val (.ref w9), .val (.ref b147), .val (.ref b158), .val (.ref b161), .val (.int (0 : Int32)), .unset, .unset, .unset]) rfl ?_
        refine XS.iload X172.here hx rfl (hb hby at_115) rfl ?_
        refine XS.iconst X172.here hx rfl (hb hby at_117) ?_
        show Steps p.tables e below (T172.setTop (mkF m 118 #[.val (.int p1), .val (.long q2), .second, .val (.int p3), .val (.int p4), .val (.int p5), .val (.int cc), .val (.int (3 : Int32)), .val (.ref w9), .val (.ref b147), .val (.ref b158), .val (.ref b161), .val (.int (0 : Int32)), .unset, .unset, .unset] [(.int (1 : Int32)), (.int (3 : Int32))])) _
        refine XS.icmpNo X172.here hx rfl (hb hby at_118) rfl (feq ((by decide) : ¬ ((3 : Int32) = (1 : Int32)))).1 ?_
        refine XS.iload X172.here hx rfl (hb hby at_121) rfl ?_
        refine XS.iconst X172.here hx rfl (hb hby at_123) ?_
        show Steps p.tables e below (T172.setTop (mkF m 124 #[.val (.int p1), .val (.long q2), .second, .val (.int p3), .val (.int p4), .val (.int p5), .val (.int cc), .val (.int (3 : Int32)), .val (.ref w9), .val (.ref b147), .val (.ref b158), .val (.ref b161), .val (.int (0 : Int32)), .unset, .unset, .unset] [(.int (2 : Int32)), (.int (3 : Int32))])) _
        refine XS.icmpYes X172.here hx rfl (pc0 := 124) (pc' := 131) rfl (hb hby at_124) rfl (feq ((by decide) : ¬ ((3 : Int32) = (2 : Int32)))).2 (by decide) (by decide) ?_
        refine XS.iconst X172.here hx rfl (hb hby at_131) ?_
        refine XS.istore X172.here hx rfl (hb hby at_132) rfl (l' := #[.val (.int p1), .val (.long q2), .second, .val (.int p3), .val (.int p4), .val (.int p5), .val (.int cc), .val (.int (3 : Int32)), .val (.ref w9), .val (.ref b147), .val (.ref b158), .val (.ref b161), .val (.int (0 : Int32)), .val (.int (0 : Int32)), .unset, .unset]) rfl ?_
        show Steps p.tables e below (T172.setTop (mkF m 134 #[.val (.int p1), .val (.long q2), .second, .val (.int p3), .val (.int p4), .val (.int p5), .val (.int cc), .val (.int (3 : Int32)), .val (.ref w9), .val (.ref b147), .val (.ref b158), .val (.ref b161), .val (.int (0 : Int32)), .val (.int (0 : Int32)), .unset, .unset] [])) _
        refine XS.iloadN X172.here hx rfl (hb hby at_134) rfl ?_
        show Steps p.tables e below (T172.setTop (mkF m 135 #[.val (.int p1), .val (.long q2), .second, .val (.int p3), .val (.int p4), .val (.int p5), .val (.int cc), .val (.int (3 : Int32)), .val (.ref w9), .val (.ref b147), .val (.ref b158), .val (.ref b161), .val (.int (0 : Int32)), .val (.int (0 : Int32)), .unset, .unset] [(.int p3)])) _
        refine XS.ifNo X172.here hx rfl (hb hby at_135) rfl ((if0 _ _).trans (tlt (hm : (0 : Int32) < p3)).2.2.2) ?_
        refine XS.iload X172.here hx rfl (hb hby at_138) rfl ?_
        refine XS.iloadN X172.here hx rfl (hb hby at_140) rfl ?_
        exact kt)
      have pre174 : ∀ t, Steps p.tables e below (T172.setTop (mkF m 149 #[.val (.int p1), .val (.long q2), .second, .val (.int p3), .val (.int p4), .val (.int p5), .val (.int cc), .val (.int (3 : Int32)), .val (.ref w9), .val (.ref b147), .val (.ref b158), .val (.ref b161), .val (.int (0 : Int32)), .val (.int (0 : Int32)), .unset, .unset] [(.int (own_sl p4 p3 (1 : Int32) (0 : Int32)))])) t → Steps p.tables e below (s₁.setTop (entryFrame m #[(.int p1), (.long q2), (.int p3), (.int p4), (.int p5)] maxLocals)) t := fun t kt => pre173 t (by
        by_cases hd_ : p4 < p3
        · show Steps p.tables e below (T172.setTop (mkF m 141 #[.val (.int p1), .val (.long q2), .second, .val (.int p3), .val (.int p4), .val (.int p5), .val (.int cc), .val (.int (3 : Int32)), .val (.ref w9), .val (.ref b147), .val (.ref b158), .val (.ref b161), .val (.int (0 : Int32)), .val (.int (0 : Int32)), .unset, .unset] [(.int p3), (.int p4)])) _
          refine XS.icmpNo X172.here hx rfl (hb hby at_141) rfl (tlt (hd_ : p4 < p3)).2.1 ?_
          refine XS.iconst X172.here hx rfl (hb hby at_144) ?_
          refine XS.goto X172.here hx rfl (pc0 := 145) (pc' := 149) rfl (hb hby at_145) (by decide) (by decide) ?_
          rw [show (own_sl p4 p3 (1 : Int32) (0 : Int32)) = (1 : Int32) from if_pos hd_] at kt
          exact kt
        · show Steps p.tables e below (T172.setTop (mkF m 141 #[.val (.int p1), .val (.long q2), .second, .val (.int p3), .val (.int p4), .val (.int p5), .val (.int cc), .val (.int (3 : Int32)), .val (.ref w9), .val (.ref b147), .val (.ref b158), .val (.ref b161), .val (.int (0 : Int32)), .val (.int (0 : Int32)), .unset, .unset] [(.int p3), (.int p4)])) _
          refine XS.icmpYes X172.here hx rfl (pc0 := 141) (pc' := 148) rfl (hb hby at_141) rfl (flt (hd_ : ¬ (p4 < p3))).2.1 (by decide) (by decide) ?_
          refine XS.iconst X172.here hx rfl (hb hby at_148) ?_
          rw [show (own_sl p4 p3 (1 : Int32) (0 : Int32)) = (0 : Int32) from if_neg hd_] at kt
          exact kt)
      obtain ⟨fs, hr, hrun, hended, hREW⟩ := X172.leaveW (s := s) hS157 (by rw [e172]; exact (Nat.le_trans (Nat.le_trans (Nat.le_trans (Nat.le_trans (Nat.le_refl _) E158.1) K160.1) E161.1) K165.1)) (v := some (.int (1 : Int32))) (fun h => by rw [Bd.returns] at h; cases h)
      refine ⟨_, _, pre174 _ ?_, hrun, hended, _, _, rfl, ?_, hREW.1, hREW.2.1, hREW.2.2.1, hREW.2.2.2.mono (by decide) (by decide)⟩
      · show Steps p.tables e below (T172.setTop (mkF m 149 #[.val (.int p1), .val (.long q2), .second, .val (.int p3), .val (.int p4), .val (.int p5), .val (.int cc), .val (.int (3 : Int32)), .val (.ref w9), .val (.ref b147), .val (.ref b158), .val (.ref b161), .val (.int (0 : Int32)), .val (.int (0 : Int32)), .unset, .unset] [(.int (own_sl p4 p3 (1 : Int32) (0 : Int32)))])) _
        refine XS.istore X172.here hx rfl (hb hby at_149) rfl (l' := #[.val (.int p1), .val (.long q2), .second, .val (.int p3), .val (.int p4), .val (.int p5), .val (.int cc), .val (.int (3 : Int32)), .val (.ref w9), .val (.ref b147), .val (.ref b158), .val (.ref b161), .val (.int (0 : Int32)), .val (.int (0 : Int32)), .val (.int (own_sl p4 p3 (1 : Int32) (0 : Int32))), .unset]) rfl ?_
        refine XS.goto X172.here hx rfl (pc0 := 151) (pc' := 168) rfl (hb hby at_151) (by decide) (by decide) ?_
        refine XS.iload X172.here hx rfl (hb hby at_168) rfl ?_
        show Steps p.tables e below (T172.setTop (mkF m 170 #[.val (.int p1), .val (.long q2), .second, .val (.int p3), .val (.int p4), .val (.int p5), .val (.int cc), .val (.int (3 : Int32)), .val (.ref w9), .val (.ref b147), .val (.ref b158), .val (.ref b161), .val (.int (0 : Int32)), .val (.int (0 : Int32)), .val (.int (own_sl p4 p3 (1 : Int32) (0 : Int32))), .unset] [(.int (0 : Int32))])) _
        refine XS.ifYes X172.here hx rfl (pc0 := 170) (pc' := 182) rfl (hb hby at_170) rfl ((if0 _ _).trans (teq ((by decide) : (0 : Int32) = (0 : Int32))).1) (by decide) (by decide) ?_
        refine XS.iconst X172.here hx rfl (hb hby at_182) ?_
        refine XS.istore X172.here hx rfl (hb hby at_183) rfl (l' := #[.val (.int p1), .val (.long q2), .second, .val (.int p3), .val (.int p4), .val (.int p5), .val (.int cc), .val (.int (3 : Int32)), .val (.ref w9), .val (.ref b147), .val (.ref b158), .val (.ref b161), .val (.int (0 : Int32)), .val (.int (0 : Int32)), .val (.int (own_sl p4 p3 (1 : Int32) (0 : Int32))), .val (.int (0 : Int32))]) rfl ?_
        show Steps p.tables e below (T172.setTop (mkF m 185 #[.val (.int p1), .val (.long q2), .second, .val (.int p3), .val (.int p4), .val (.int p5), .val (.int cc), .val (.int (3 : Int32)), .val (.ref w9), .val (.ref b147), .val (.ref b158), .val (.ref b161), .val (.int (0 : Int32)), .val (.int (0 : Int32)), .val (.int (own_sl p4 p3 (1 : Int32) (0 : Int32))), .val (.int (0 : Int32))] [])) _
        refine XS.iload X172.here hx rfl (hb hby at_185) rfl ?_
        refine XS.iload X172.here hx rfl (hb hby at_187) rfl ?_
        show Steps p.tables e below (T172.setTop (mkF m 189 #[.val (.int p1), .val (.long q2), .second, .val (.int p3), .val (.int p4), .val (.int p5), .val (.int cc), .val (.int (3 : Int32)), .val (.ref w9), .val (.ref b147), .val (.ref b158), .val (.ref b161), .val (.int (0 : Int32)), .val (.int (0 : Int32)), .val (.int (own_sl p4 p3 (1 : Int32) (0 : Int32))), .val (.int (0 : Int32))] [(.int (0 : Int32)), (.int (0 : Int32))])) _
        refine XS.icmpNo X172.here hx rfl (hb hby at_189) rfl (teq ((by decide) : (0 : Int32) = (0 : Int32))).2 ?_
        refine XS.iconst X172.here hx rfl (hb hby at_192) ?_
        refine XS.goto X172.here hx rfl (pc0 := 193) (pc' := 197) rfl (hb hby at_193) (by decide) (by decide) ?_
        show Steps p.tables e below (T172.setTop (mkF m 197 #[.val (.int p1), .val (.long q2), .second, .val (.int p3), .val (.int p4), .val (.int p5), .val (.int cc), .val (.int (3 : Int32)), .val (.ref w9), .val (.ref b147), .val (.ref b158), .val (.ref b161), .val (.int (0 : Int32)), .val (.int (0 : Int32)), .val (.int (own_sl p4 p3 (1 : Int32) (0 : Int32))), .val (.int (0 : Int32))] [(.int (1 : Int32))])) _
        exact retN X172 hx (t := .boolean) Bd.returns (by simp) (hb hby at_197) hr
      · show Qrm0 Z p1 q2 p3 p4 p5 w6 w7 w8 w9 h0 n0 _ T172.heap _
        exact ⟨rfl, N172⟩
    · have f175 : Exa Z T165.heap b158 "com/example/runqueue/runqueue/Outcome" := ((P160_0.ext E161).keep K165)
      have f176 : Fld Z T165.heap b158 "com/example/runqueue/runqueue/Outcome" "state" "Lcom/example/runqueue/runqueue/Outcome$State;" (.ref w9) := ((P160_2.ext E161).keep K165 (ninS ne164 nin0))
      have f177 : Fld Z T165.heap b158 "com/example/runqueue/runqueue/Outcome" "job" "Lcom/example/runqueue/runqueue/Job;" (.ref b147) := ((P160_1.ext E161).keep K165 (ninS ne164 nin0))
      have f178 : Exa Z T165.heap b147 "com/example/runqueue/runqueue/Job" := ((f162.ext E161).keep K165)
      have f179 : Fld Z T165.heap b147 "com/example/runqueue/runqueue/Job" "maxAttempts" "I" (.int p3) := ((((P157_5.ext E158).keep K160 (ninS ne159 nin0)).ext E161).keep K165 (ninS ne163 nin0))
      obtain ⟨cq180, kq180, q180a, q180b, q180c⟩ := isOf hZ157 rfl P165_0
      obtain ⟨_, _, ⟨T180, L180, k180, n180⟩, -, X180, ⟨Lc180, hQ180, l180, y180, z180⟩, st180⟩ := X165.virtualBack hx (y := (⟨"com/example/runqueue/runqueue/Retries", "again", "(Lcom/example/runqueue/runqueue/Outcome;)Z"⟩ : MethodName)) (z := (⟨"com/example/runqueue/runqueue/Retries", "again", "(Lcom/example/runqueue/runqueue/Outcome;)Z"⟩ : MethodName)) hown157 (mvT hZ157 (hw _ (List.mem_of_getElem? (i := 69) rfl))) (mvT hZ157 (hw _ (List.mem_of_getElem? (i := 70) rfl))) (notFace_of_selects (args := #[]) (mvT hZ157 (hw _ (List.mem_of_getElem? (i := 72) rfl)))) (mvT hZ157 (hw _ (List.mem_of_getElem? (i := 72) rfl))) (mvT hZ157 (hw _ (List.mem_of_getElem? (i := 71) rfl))) (by decide) (backOf (W := 0) (rm7_1 l Z a0 hw [] b161 b158 w9 b147 p3 cc w7 w8 T165.heap n0 O165 f175 f176 f177 f178 f179 hm P165_1 S_FAILED (Ne.symm (Fld.ne F_FAILED F_SKIPPED (by decide))) S_TIMEOUT (Ne.symm (Fld.ne F_TIMEOUT F_SKIPPED (by decide)))) hZ157 (hw _ (List.mem_of_getElem? (i := 73) rfl)) (hw _ (List.mem_of_getElem? (i := 60) rfl)) (by decide) (by decide)) q180a q180c (g := (mkF m 110 #[.val (.int p1), .val (.long q2), .second, .val (.int p3), .val (.int p4), .val (.int p5), .val (.int cc), .val (.int (3 : Int32)), .val (.ref w9), .val (.ref b147), .val (.ref b158), .val (.ref b161), .unset, .unset, .unset, .unset] [(.ref b158), (.ref b161)])) rfl (by rw [hml]; rfl) (Steps.refl _) (argsL := [(.ref b158)]) (rest := []) (lenOf pd_13 rfl) rfl (by show 2 * 0 + _ ≤ _; exact Nat.le_of_eq rfl) (hb hby at_110) (fun _ _ => ⟨rfl, rfl, (by decide : 15 + 0 ≤ _), (by decide : 99 + 0 ≤ _)⟩)
      dsimp only [Pt.U, Pt.locs, Pt.cells, Pt.slots] at X180 l180 y180 z180 st180 hQ180
      subst l180 y180 z180
      obtain ⟨rfl, Nq180, e180⟩ := hQ180
      have N180 := Fr.app N165 Nq180
      have pre181 : ∀ t, Steps p.tables e below (T180.setTop (mkF m 158 #[.val (.int p1), .val (.long q2), .second, .val (.int p3), .val (.int p4), .val (.int p5), .val (.int cc), .val (.int (3 : Int32)), .val (.ref w9), .val (.ref b147), .val (.ref b158), .val (.ref b161), .val (.int (0 : Int32)), .val (.int (0 : Int32)), .unset, .unset] [(.int cc), (.int p4)])) t → Steps p.tables e below (s₁.setTop (entryFrame m #[(.int p1), (.long q2), (.int p3), (.int p4), (.int p5)] maxLocals)) t := fun t kt => pre166 t (by
        show Steps p.tables e below (T165.setTop (mkF m 106 #[.val (.int p1), .val (.long q2), .second, .val (.int p3), .val (.int p4), .val (.int p5), .val (.int cc), .val (.int (3 : Int32)), .val (.ref w9), .val (.ref b147), .val (.ref b158), .val (.ref b161), .unset, .unset, .unset, .unset] [])) _
        refine XS.aload X165.here hx rfl (hb hby at_106) rfl rfl ?_
        refine XS.aload X165.here hx rfl (hb hby at_108) rfl rfl ?_
        show Steps p.tables e below (T165.setTop (mkF m 110 #[.val (.int p1), .val (.long q2), .second, .val (.int p3), .val (.int p4), .val (.int p5), .val (.int cc), .val (.int (3 : Int32)), .val (.ref w9), .val (.ref b147), .val (.ref b158), .val (.ref b161), .unset, .unset, .unset, .unset] [(.ref b158), (.ref b161)])) _
        refine st180.trans ?_
        show Steps p.tables e below (T180.setTop (mkF m 113 #[.val (.int p1), .val (.long q2), .second, .val (.int p3), .val (.int p4), .val (.int p5), .val (.int cc), .val (.int (3 : Int32)), .val (.ref w9), .val (.ref b147), .val (.ref b158), .val (.ref b161), .unset, .unset, .unset, .unset] [(.int (0 : Int32))])) _
        refine XS.istore X180.here hx rfl (hb hby at_113) rfl (l' := #[.val (.int p1), .val (.long q2), .second, .val (.int p3), .val (.int p4), .val (.int p5), .val (.int cc), .val (.int (3 : Int32)), .val (.ref w9), .val (.ref b147), .val (.ref b158), .val (.ref b161), .val (.int (0 : Int32)), .unset, .unset, .unset]) rfl ?_
        refine XS.iload X180.here hx rfl (hb hby at_115) rfl ?_
        refine XS.iconst X180.here hx rfl (hb hby at_117) ?_
        show Steps p.tables e below (T180.setTop (mkF m 118 #[.val (.int p1), .val (.long q2), .second, .val (.int p3), .val (.int p4), .val (.int p5), .val (.int cc), .val (.int (3 : Int32)), .val (.ref w9), .val (.ref b147), .val (.ref b158), .val (.ref b161), .val (.int (0 : Int32)), .unset, .unset, .unset] [(.int (1 : Int32)), (.int (3 : Int32))])) _
        refine XS.icmpNo X180.here hx rfl (hb hby at_118) rfl (feq ((by decide) : ¬ ((3 : Int32) = (1 : Int32)))).1 ?_
        refine XS.iload X180.here hx rfl (hb hby at_121) rfl ?_
        refine XS.iconst X180.here hx rfl (hb hby at_123) ?_
        show Steps p.tables e below (T180.setTop (mkF m 124 #[.val (.int p1), .val (.long q2), .second, .val (.int p3), .val (.int p4), .val (.int p5), .val (.int cc), .val (.int (3 : Int32)), .val (.ref w9), .val (.ref b147), .val (.ref b158), .val (.ref b161), .val (.int (0 : Int32)), .unset, .unset, .unset] [(.int (2 : Int32)), (.int (3 : Int32))])) _
        refine XS.icmpYes X180.here hx rfl (pc0 := 124) (pc' := 131) rfl (hb hby at_124) rfl (feq ((by decide) : ¬ ((3 : Int32) = (2 : Int32)))).2 (by decide) (by decide) ?_
        refine XS.iconst X180.here hx rfl (hb hby at_131) ?_
        refine XS.istore X180.here hx rfl (hb hby at_132) rfl (l' := #[.val (.int p1), .val (.long q2), .second, .val (.int p3), .val (.int p4), .val (.int p5), .val (.int cc), .val (.int (3 : Int32)), .val (.ref w9), .val (.ref b147), .val (.ref b158), .val (.ref b161), .val (.int (0 : Int32)), .val (.int (0 : Int32)), .unset, .unset]) rfl ?_
        show Steps p.tables e below (T180.setTop (mkF m 134 #[.val (.int p1), .val (.long q2), .second, .val (.int p3), .val (.int p4), .val (.int p5), .val (.int cc), .val (.int (3 : Int32)), .val (.ref w9), .val (.ref b147), .val (.ref b158), .val (.ref b161), .val (.int (0 : Int32)), .val (.int (0 : Int32)), .unset, .unset] [])) _
        refine XS.iloadN X180.here hx rfl (hb hby at_134) rfl ?_
        show Steps p.tables e below (T180.setTop (mkF m 135 #[.val (.int p1), .val (.long q2), .second, .val (.int p3), .val (.int p4), .val (.int p5), .val (.int cc), .val (.int (3 : Int32)), .val (.ref w9), .val (.ref b147), .val (.ref b158), .val (.ref b161), .val (.int (0 : Int32)), .val (.int (0 : Int32)), .unset, .unset] [(.int p3)])) _
        refine XS.ifYes X180.here hx rfl (pc0 := 135) (pc' := 154) rfl (hb hby at_135) rfl ((if0 _ _).trans (flt (hm : ¬ ((0 : Int32) < p3))).2.2.2) (by decide) (by decide) ?_
        refine XS.iload X180.here hx rfl (hb hby at_154) rfl ?_
        refine XS.iload X180.here hx rfl (hb hby at_156) rfl ?_
        exact kt)
      have pre182 : ∀ t, Steps p.tables e below (T180.setTop (mkF m 166 #[.val (.int p1), .val (.long q2), .second, .val (.int p3), .val (.int p4), .val (.int p5), .val (.int cc), .val (.int (3 : Int32)), .val (.ref w9), .val (.ref b147), .val (.ref b158), .val (.ref b161), .val (.int (0 : Int32)), .val (.int (0 : Int32)), .unset, .unset] [(.int (own_sl cc p4 (0 : Int32) (1 : Int32)))])) t → Steps p.tables e below (s₁.setTop (entryFrame m #[(.int p1), (.long q2), (.int p3), (.int p4), (.int p5)] maxLocals)) t := fun t kt => pre181 t (by
        by_cases hd_ : cc < p4
        · show Steps p.tables e below (T180.setTop (mkF m 158 #[.val (.int p1), .val (.long q2), .second, .val (.int p3), .val (.int p4), .val (.int p5), .val (.int cc), .val (.int (3 : Int32)), .val (.ref w9), .val (.ref b147), .val (.ref b158), .val (.ref b161), .val (.int (0 : Int32)), .val (.int (0 : Int32)), .unset, .unset] [(.int cc), (.int p4)])) _
          refine XS.icmpYes X180.here hx rfl (pc0 := 158) (pc' := 165) rfl (hb hby at_158) rfl (tlt (hd_ : cc < p4)).2.2.1 (by decide) (by decide) ?_
          refine XS.iconst X180.here hx rfl (hb hby at_165) ?_
          rw [show (own_sl cc p4 (0 : Int32) (1 : Int32)) = (0 : Int32) from if_pos hd_] at kt
          exact kt
        · show Steps p.tables e below (T180.setTop (mkF m 158 #[.val (.int p1), .val (.long q2), .second, .val (.int p3), .val (.int p4), .val (.int p5), .val (.int cc), .val (.int (3 : Int32)), .val (.ref w9), .val (.ref b147), .val (.ref b158), .val (.ref b161), .val (.int (0 : Int32)), .val (.int (0 : Int32)), .unset, .unset] [(.int cc), (.int p4)])) _
          refine XS.icmpNo X180.here hx rfl (hb hby at_158) rfl (flt (hd_ : ¬ (cc < p4))).2.2.1 ?_
          refine XS.iconst X180.here hx rfl (hb hby at_161) ?_
          refine XS.goto X180.here hx rfl (pc0 := 162) (pc' := 166) rfl (hb hby at_162) (by decide) (by decide) ?_
          rw [show (own_sl cc p4 (0 : Int32) (1 : Int32)) = (1 : Int32) from if_neg hd_] at kt
          exact kt)
      obtain ⟨fs, hr, hrun, hended, hREW⟩ := X180.leaveW (s := s) hS157 (by rw [e180]; exact (Nat.le_trans (Nat.le_trans (Nat.le_trans (Nat.le_trans (Nat.le_refl _) E158.1) K160.1) E161.1) K165.1)) (v := some (.int (1 : Int32))) (fun h => by rw [Bd.returns] at h; cases h)
      refine ⟨_, _, pre182 _ ?_, hrun, hended, _, _, rfl, ?_, hREW.1, hREW.2.1, hREW.2.2.1, hREW.2.2.2.mono (by decide) (by decide)⟩
      · show Steps p.tables e below (T180.setTop (mkF m 166 #[.val (.int p1), .val (.long q2), .second, .val (.int p3), .val (.int p4), .val (.int p5), .val (.int cc), .val (.int (3 : Int32)), .val (.ref w9), .val (.ref b147), .val (.ref b158), .val (.ref b161), .val (.int (0 : Int32)), .val (.int (0 : Int32)), .unset, .unset] [(.int (own_sl cc p4 (0 : Int32) (1 : Int32)))])) _
        refine XS.istore X180.here hx rfl (hb hby at_166) rfl (l' := #[.val (.int p1), .val (.long q2), .second, .val (.int p3), .val (.int p4), .val (.int p5), .val (.int cc), .val (.int (3 : Int32)), .val (.ref w9), .val (.ref b147), .val (.ref b158), .val (.ref b161), .val (.int (0 : Int32)), .val (.int (0 : Int32)), .val (.int (own_sl cc p4 (0 : Int32) (1 : Int32))), .unset]) rfl ?_
        refine XS.iload X180.here hx rfl (hb hby at_168) rfl ?_
        show Steps p.tables e below (T180.setTop (mkF m 170 #[.val (.int p1), .val (.long q2), .second, .val (.int p3), .val (.int p4), .val (.int p5), .val (.int cc), .val (.int (3 : Int32)), .val (.ref w9), .val (.ref b147), .val (.ref b158), .val (.ref b161), .val (.int (0 : Int32)), .val (.int (0 : Int32)), .val (.int (own_sl cc p4 (0 : Int32) (1 : Int32))), .unset] [(.int (0 : Int32))])) _
        refine XS.ifYes X180.here hx rfl (pc0 := 170) (pc' := 182) rfl (hb hby at_170) rfl ((if0 _ _).trans (teq ((by decide) : (0 : Int32) = (0 : Int32))).1) (by decide) (by decide) ?_
        refine XS.iconst X180.here hx rfl (hb hby at_182) ?_
        refine XS.istore X180.here hx rfl (hb hby at_183) rfl (l' := #[.val (.int p1), .val (.long q2), .second, .val (.int p3), .val (.int p4), .val (.int p5), .val (.int cc), .val (.int (3 : Int32)), .val (.ref w9), .val (.ref b147), .val (.ref b158), .val (.ref b161), .val (.int (0 : Int32)), .val (.int (0 : Int32)), .val (.int (own_sl cc p4 (0 : Int32) (1 : Int32))), .val (.int (0 : Int32))]) rfl ?_
        show Steps p.tables e below (T180.setTop (mkF m 185 #[.val (.int p1), .val (.long q2), .second, .val (.int p3), .val (.int p4), .val (.int p5), .val (.int cc), .val (.int (3 : Int32)), .val (.ref w9), .val (.ref b147), .val (.ref b158), .val (.ref b161), .val (.int (0 : Int32)), .val (.int (0 : Int32)), .val (.int (own_sl cc p4 (0 : Int32) (1 : Int32))), .val (.int (0 : Int32))] [])) _
        refine XS.iload X180.here hx rfl (hb hby at_185) rfl ?_
        refine XS.iload X180.here hx rfl (hb hby at_187) rfl ?_
        show Steps p.tables e below (T180.setTop (mkF m 189 #[.val (.int p1), .val (.long q2), .second, .val (.int p3), .val (.int p4), .val (.int p5), .val (.int cc), .val (.int (3 : Int32)), .val (.ref w9), .val (.ref b147), .val (.ref b158), .val (.ref b161), .val (.int (0 : Int32)), .val (.int (0 : Int32)), .val (.int (own_sl cc p4 (0 : Int32) (1 : Int32))), .val (.int (0 : Int32))] [(.int (0 : Int32)), (.int (0 : Int32))])) _
        refine XS.icmpNo X180.here hx rfl (hb hby at_189) rfl (teq ((by decide) : (0 : Int32) = (0 : Int32))).2 ?_
        refine XS.iconst X180.here hx rfl (hb hby at_192) ?_
        refine XS.goto X180.here hx rfl (pc0 := 193) (pc' := 197) rfl (hb hby at_193) (by decide) (by decide) ?_
        show Steps p.tables e below (T180.setTop (mkF m 197 #[.val (.int p1), .val (.long q2), .second, .val (.int p3), .val (.int p4), .val (.int p5), .val (.int cc), .val (.int (3 : Int32)), .val (.ref w9), .val (.ref b147), .val (.ref b158), .val (.ref b161), .val (.int (0 : Int32)), .val (.int (0 : Int32)), .val (.int (own_sl cc p4 (0 : Int32) (1 : Int32))), .val (.int (0 : Int32))] [(.int (1 : Int32))])) _
        exact retN X180 hx (t := .boolean) Bd.returns (by simp) (hb hby at_197) hr
      · show Qrm0 Z p1 q2 p3 p4 p5 w6 w7 w8 w9 h0 n0 _ T180.heap _
        exact ⟨rfl, N180⟩
set_option maxRecDepth 65536 in
set_option maxHeartbeats 40000000 in
theorem comes_1 {Post : Tables → Env → Array Value → State → Outcome → State → Prop} (hpost : ∀ tb e args s v u, (limb_1_1.after args s (.returned v) u = true ∧ limb_1_2.after args s (.returned v) u = true ∧ True) → ReturnedEndW s (.returned v) u (Jvm.fieldLocs frame_1_writes args s ++ Jvm.arrayLocs frame_1_arrays args s ++ Jvm.staticLocs frame_1_statics s) 24 4224 → Post tb e args s (.returned v) u) :
    ArmFor flags0 classFile x code maxLocals ret World_1 tables_1 room_1 Calls_1 rest_1 Pre_1 Post := by
  intro l hfl _ _ p e ha hc hk s m args below hf hA hF happ hP
  obtain ⟨hcalls, hrest, hpre⟩ := hP
  obtain ⟨-, -, -, hnamed, -, -, -, hat⟩ := (Spec.applies_iff hf).mp happ
  obtain ⟨hg, hn⟩ := and_e (Cond.before_iff.mp (show (Jvm.Cond.and given_1 narrow_1).before args s = true from hpre))
  obtain ⟨u0, u1⟩ := and_e hg
  obtain ⟨u2, u3⟩ := and_e u1
  obtain ⟨u4, u5⟩ := and_e u3
  obtain ⟨u6, u7⟩ := and_e u5
  obtain ⟨u8, u9⟩ := and_e u7
  obtain ⟨u10, u11⟩ := and_e hn
  obtain ⟨u12, u13⟩ := and_e u11
  obtain ⟨u14, u15⟩ := and_e u13
  obtain ⟨u16, u17⟩ := and_e u15
  obtain ⟨u18, u19⟩ := and_e u17
  obtain ⟨u20, u21⟩ := and_e u19
  obtain ⟨u22, u23⟩ := and_e u21
  obtain ⟨w0, w1, w2, w3, w4, rfl⟩ : ∃ w0 w1 w2 w3 w4 : Value, args = #[w0, w1, w2, w3, w4] := by
    have hs : args.size = 5 := by simpa [Cond.value, given_1] using u0
    obtain ⟨L⟩ := args
    match L, hs with
    | [w0, w1, w2, w3, w4], _ => exact ⟨w0, w1, w2, w3, w4, rfl⟩
  have hw := fun d (hd : d ∈ tables_1) => atoms_spec (ws := Jvm.Cond.code x code maxLocals ret :: tables_1) hat d (List.mem_cons_of_mem _ hd)
  have hfit : Fit s := fun {y c} hc i hi => by
    obtain ⟨ha, rfl⟩ := Array.getElem?_eq_some_iff.mp hc
    have q := List.all_eq_true.mp ((Array.all_eq_true_iff_forall_mem.mp hF) _ (Array.getElem_mem ha)) i (List.mem_range.mpr hi)
    simpa [Array.getElem?_eq_getElem hi] using q
  obtain ⟨i0, ei0⟩ := is_v u2
  obtain rfl : w0 = (.int i0) := Option.some.inj ei0
  obtain ⟨i1, ei1⟩ := isL_v u4
  obtain rfl : w1 = (.long i1) := Option.some.inj ei1
  obtain ⟨i2, ei2⟩ := is_v u6
  obtain rfl : w2 = (.int i2) := Option.some.inj ei2
  obtain ⟨i3, ei3⟩ := is_v u8
  obtain rfl : w3 = (.int i3) := Option.some.inj ei3
  obtain ⟨i4, ei4⟩ := is_v u9
  obtain rfl : w4 = (.int i4) := Option.some.inj ei4
  obtain ⟨wDONE, evDONE⟩ := exa_v u22
  have S_DONE : Sta s s.heap "com/example/runqueue/runqueue/Outcome$State" "DONE" "Lcom/example/runqueue/runqueue/Outcome$State;" (.ref wDONE) := Sta.start evDONE (Or.inr ⟨(hw _ (List.mem_of_getElem? (i := 2) rfl)), (hw _ (List.mem_of_getElem? (i := 101) rfl))⟩)
  have E_DONE : Exa s s.heap wDONE "com/example/runqueue/runqueue/Outcome$State" := Exa.start evDONE u22
  have F_DONE : Fld s s.heap wDONE "java/lang/Enum" "ordinal" "I" (.int (0 : Int32)) := Fld.start ((fld_at evDONE).symm.trans (own_eqint u23))
  obtain ⟨wFAILED, evFAILED⟩ := exa_v u12
  have S_FAILED : Sta s s.heap "com/example/runqueue/runqueue/Outcome$State" "FAILED" "Lcom/example/runqueue/runqueue/Outcome$State;" (.ref wFAILED) := Sta.start evFAILED (Or.inr ⟨(hw _ (List.mem_of_getElem? (i := 2) rfl)), (hw _ (List.mem_of_getElem? (i := 90) rfl))⟩)
  have E_FAILED : Exa s s.heap wFAILED "com/example/runqueue/runqueue/Outcome$State" := Exa.start evFAILED u12
  have F_FAILED : Fld s s.heap wFAILED "java/lang/Enum" "ordinal" "I" (.int (1 : Int32)) := Fld.start ((fld_at evFAILED).symm.trans (own_eqint u16))
  obtain ⟨wTIMEOUT, evTIMEOUT⟩ := exa_v u18
  have S_TIMEOUT : Sta s s.heap "com/example/runqueue/runqueue/Outcome$State" "TIMEOUT" "Lcom/example/runqueue/runqueue/Outcome$State;" (.ref wTIMEOUT) := Sta.start evTIMEOUT (Or.inr ⟨(hw _ (List.mem_of_getElem? (i := 2) rfl)), (hw _ (List.mem_of_getElem? (i := 92) rfl))⟩)
  have E_TIMEOUT : Exa s s.heap wTIMEOUT "com/example/runqueue/runqueue/Outcome$State" := Exa.start evTIMEOUT u18
  have F_TIMEOUT : Fld s s.heap wTIMEOUT "java/lang/Enum" "ordinal" "I" (.int (2 : Int32)) := Fld.start ((fld_at evTIMEOUT).symm.trans (own_eqint u20))
  obtain ⟨wSKIPPED, evSKIPPED⟩ := exa_v u10
  have S_SKIPPED : Sta s s.heap "com/example/runqueue/runqueue/Outcome$State" "SKIPPED" "Lcom/example/runqueue/runqueue/Outcome$State;" (.ref wSKIPPED) := Sta.start evSKIPPED (Or.inr ⟨(hw _ (List.mem_of_getElem? (i := 2) rfl)), (hw _ (List.mem_of_getElem? (i := 3) rfl))⟩)
  have E_SKIPPED : Exa s s.heap wSKIPPED "com/example/runqueue/runqueue/Outcome$State" := Exa.start evSKIPPED u10
  have F_SKIPPED : Fld s s.heap wSKIPPED "java/lang/Enum" "ordinal" "I" (.int (3 : Int32)) := Fld.start ((fld_at evSKIPPED).symm.trans (own_eqint u14))
  obtain ⟨n, o, h1, h2, h3, _, L, rfl, ⟨rfl, N⟩, hq⟩ := rm0 l s _ hw tables_1 i0 i1 i2 i3 i4 wDONE wFAILED wTIMEOUT wSKIPPED s.heap s.heap.size (Old.start s) S_DONE E_DONE F_DONE S_FAILED E_FAILED F_FAILED S_TIMEOUT E_TIMEOUT F_TIMEOUT S_SKIPPED E_SKIPPED F_SKIPPED p e ha hc hk s m _ below hf ((Spec.applies_iff_loose hf).mp happ).1 ⟨rfl, State.Warmed39.refl s, rfl⟩ trivial
  refine ⟨n, _, h1, h2, h3, hpost _ _ _ _ _ _ ⟨Cond.after_iff.mpr rfl, Cond.after_iff.mpr (eq_i res_at (Term.int_eval (1)) rfl), trivial⟩ ⟨hq.1, hq.2.1, hq.2.2.1, (hq.2.2.2.sift fun y hy => Or.inr (N y hy)).mono (by decide) (by decide)⟩⟩
theorem main_1_1 : Claimed_1_1 := comes_1 fun _ _ _ _ _ _ h hF => ⟨h.1, hF⟩
theorem main_1_2 : Claimed_1_2 := comes_1 fun _ _ _ _ _ _ h hF => ⟨h.2.1, hF⟩
end Jvm.Pilot.@@N@@
namespace Jvm.Pilot.@@N@@
open Jvm Jvm.ClassFile Sem Op Lib Jvm.Free Jvm.Stand Jvm.Pilot.@@N@@.Jvm.D
/-! MADE BY PROGRAM (witnessworld.py) out of the Statement's table words and the real class files: 20 classes; the members and pool entries that the words name. The judged class is class 1, her method 1. -/
namespace start1
open Jvm.ClassFile
def u (s : String) : CpInfo := .utf8 (stringToUtf16 s)
/-- a pool by its gaps: so many unusable entries, then the entry; so many at the end -/
def gap : Nat → List CpInfo → List CpInfo
  | 0, r => r
  | n + 1, r => .unusable :: gap n r
def poolList (es : List (Nat × CpInfo)) (last : Nat) : List CpInfo := es.foldr (fun e r => gap e.1 (e.2 :: r)) (gap last [])
def pool (es : List (Nat × CpInfo)) (last : Nat) : Array CpInfo := ⟨poolList es last⟩
def fileOf (pool : Array CpInfo) (this : Nat) (attrs : Array Attribute := #[]) (ms : Array MethodInfo := #[]) (fl : Nat := 33) (sup : Nat := 0) (ifs : Array Nat := #[]) (fds : Array FieldInfo := #[]) : ClassFile where
  minorVersion := 0
  majorVersion := 65
  constantPool := pool
  accessFlags := fl
  thisClass := this
  superClass := sup
  interfaces := ifs
  fields := fds
  methods := ms
  attributes := attrs
def plain (name : String) (sup : Option ClassId) : Class where
  name := name
  kind := .ordinary
  loader := none
  accessFlags := 33
  super := sup
  interfaces := #[]
  cf := none
  fields := #[]
  methods := #[]
  instanceTypes := #[]
  staticTypes := #[]
  resolved := #[]
  callSites := []
  init := .initialized
  statics := none
  mirror := none

def pool0 : Array CpInfo := pool [(5, u "<init>"), (0, u "()V"), (1, .class_ 10), (1, u "java/lang/Object")] 113

def k0c0 : Code := { maxStack := 0, maxLocals := 1, code := object_method_1_code, exceptionTable := #[], attributes := #[] }
def k0m0 : Method := { name := "<init>", desc := "()V", sig := { parameters := [], returnType := none }, accessFlags := 1, code := some k0c0 }
/-- java/lang/Object -/
def k0 : Class := { plain "java/lang/Object" none with
  accessFlags := 33
  interfaces := #[]
  cf := some (fileOf pool0 8 #[] #[{ accessFlags := 1, nameIndex := 5, descriptorIndex := 6, attributes := #[] }] 33 0 #[] #[])
  fields := #[]
  methods := #[k0m0]
  instanceTypes := #[]
  staticTypes := #[]
  resolved := Array.replicate 124 none
  statics := none }

def pool1 : Array CpInfo := pool [(2, .class_ 4), (1, u "java/lang/Object"), (0, u "<init>"), (0, u "()V"), (0, .integer 2147483647), (0, .fieldref 9 10), (0, .class_ 11), (0, .nameAndType 12 13), (0, u "com/example/runqueue/runqueue/Outcome$State"), (0, u "DONE"), (0, u "Lcom/example/runqueue/runqueue/Outcome$State;"), (0, .fieldref 9 15), (0, .nameAndType 16 13), (0, u "FAILED"), (0, .fieldref 9 18), (0, .nameAndType 19 13), (0, u "TIMEOUT"), (0, .fieldref 9 21), (0, .nameAndType 22 13), (0, u "SKIPPED"), (0, .class_ 24), (0, u "com/example/runqueue/runqueue/Job"), (0, .string 26), (0, u "a"), (0, .methodref 23 28), (0, .nameAndType 5 29), (0, u "(Ljava/lang/String;Ljava/lang/String;Ljava/lang/String;JI)V"), (0, .class_ 31), (0, u "com/example/runqueue/runqueue/Outcome"), (0, .methodref 30 33), (0, .nameAndType 5 34), (0, u "(Lcom/example/runqueue/runqueue/Job;Lcom/example/runqueue/runqueue/Outcome$State;ILcom/example/runqueue/runqueue/Outcome$Run;)V"), (0, .class_ 36), (0, u "com/example/runqueue/runqueue/Retries"), (0, .methodref 35 38), (0, .nameAndType 5 39), (0, u "(IJ)V"), (0, .methodref 35 41), (0, .nameAndType 42 43), (0, u "again"), (0, u "(Lcom/example/runqueue/runqueue/Outcome;)Z"), (0, .class_ 45), (0, u "com/example/runqueue/runqueue/RetriesAgainPinLaw"), (2, u "law"), (0, u "(IJIII)Z")] 8

def k1m0 : Method := { name := "<init>", desc := "()V", sig := { parameters := [], returnType := none }, accessFlags := 1, code := none }
def k1c1 : Code := { maxStack := 8, maxLocals := 16, code := code, exceptionTable := #[], attributes := #[] }
def k1m1 : Method := { name := "law", desc := "(IJIII)Z", sig := { parameters := [.int, .long, .int, .int, .int], returnType := some .boolean }, accessFlags := 9, code := some k1c1 }
/-- com/example/runqueue/runqueue/RetriesAgainPinLaw -/
def k1 : Class := { plain "com/example/runqueue/runqueue/RetriesAgainPinLaw" (some 0) with
  accessFlags := 49
  interfaces := #[]
  cf := some (fileOf pool1 44 #[] #[{ accessFlags := 1, nameIndex := 5, descriptorIndex := 6, attributes := #[] }, { accessFlags := 9, nameIndex := 48, descriptorIndex := 49, attributes := #[] }] 49 2 #[] #[])
  fields := #[]
  methods := #[k1m0, k1m1]
  instanceTypes := #[]
  staticTypes := #[]
  resolved := Array.replicate 58 none
  statics := none }

def pool2 : Array CpInfo := pool [(1, .class_ 2), (0, u "java/lang/constant/Constable"), (0, .class_ 4), (0, u "java/lang/Object")] 6

/-- java/lang/constant/Constable -/
def k2 : Class := { plain "java/lang/constant/Constable" (some 0) with
  accessFlags := 1537
  interfaces := #[]
  cf := some (fileOf pool2 1 #[] #[] 1537 3 #[] #[])
  fields := #[]
  methods := #[]
  instanceTypes := #[]
  staticTypes := #[]
  resolved := Array.replicate 11 none
  statics := none }

def pool3 : Array CpInfo := pool [(1, .class_ 2), (0, u "java/lang/Comparable"), (0, .class_ 4), (0, u "java/lang/Object")] 7

/-- java/lang/Comparable -/
def k3 : Class := { plain "java/lang/Comparable" (some 0) with
  accessFlags := 1537
  interfaces := #[]
  cf := some (fileOf pool3 1 #[] #[] 1537 3 #[] #[])
  fields := #[]
  methods := #[]
  instanceTypes := #[]
  staticTypes := #[]
  resolved := Array.replicate 12 none
  statics := none }

def pool4 : Array CpInfo := pool [(1, .class_ 2), (0, u "java/io/Serializable"), (0, .class_ 4), (0, u "java/lang/Object")] 2

/-- java/io/Serializable -/
def k4 : Class := { plain "java/io/Serializable" (some 0) with
  accessFlags := 1537
  interfaces := #[]
  cf := some (fileOf pool4 1 #[] #[] 1537 3 #[] #[])
  fields := #[]
  methods := #[]
  instanceTypes := #[]
  staticTypes := #[]
  resolved := Array.replicate 7 none
  statics := none }

def pool5 : Array CpInfo := pool [(2, .class_ 4), (1, u "java/lang/Enum"), (0, u "name"), (0, u "Ljava/lang/String;"), (2, u "ordinal"), (0, u "I"), (1, .class_ 14), (1, u "java/lang/Object"), (4, u "hash"), (86, .class_ 108), (1, u "java/lang/Enum$EnumDesc"), (2, .class_ 112), (0, u "java/lang/constant/Constable"), (0, .class_ 114), (0, u "java/lang/Comparable"), (0, .class_ 116), (0, u "java/io/Serializable")] 87

/-- java/lang/Enum -/
def k5 : Class := { plain "java/lang/Enum" (some 0) with
  accessFlags := 1057
  interfaces := #[2, 3, 4]
  cf := some (fileOf pool5 2 #[.nestMembers #[106]] #[] 1057 12 #[111, 113, 115] #[{ accessFlags := 18, nameIndex := 5, descriptorIndex := 6, attributes := #[] }, { accessFlags := 18, nameIndex := 9, descriptorIndex := 10, attributes := #[] }, { accessFlags := 2, nameIndex := 19, descriptorIndex := 10, attributes := #[] }])
  fields := #[{ name := "name", type := (.object "java/lang/String"), accessFlags := 18, slot := 0, constantValue := 0 }, { name := "ordinal", type := .int, accessFlags := 18, slot := 1, constantValue := 0 }, { name := "hash", type := .int, accessFlags := 2, slot := 2, constantValue := 0 }]
  methods := #[]
  instanceTypes := #[(.object "java/lang/String"), .int, .int]
  staticTypes := #[]
  resolved := Array.replicate 204 none
  statics := none }

def pool6 : Array CpInfo := pool [(1, .class_ 2), (0, u "com/example/runqueue/runqueue/Outcome$State"), (2, u "DONE"), (0, u "Lcom/example/runqueue/runqueue/Outcome$State;"), (2, u "FAILED"), (2, u "TIMEOUT"), (2, u "SKIPPED"), (2, u "$VALUES"), (0, u "[Lcom/example/runqueue/runqueue/Outcome$State;"), (6, .class_ 28), (1, u "java/lang/Enum"), (44, .class_ 74), (0, u "com/example/runqueue/runqueue/Outcome")] 2

/-- com/example/runqueue/runqueue/Outcome$State -/
def k6 : Class := { plain "com/example/runqueue/runqueue/Outcome$State" (some 5) with
  accessFlags := 16432
  interfaces := #[]
  cf := some (fileOf pool6 1 #[.nestHost 73] #[] 16432 26 #[] #[{ accessFlags := 16409, nameIndex := 5, descriptorIndex := 6, attributes := #[] }, { accessFlags := 16409, nameIndex := 9, descriptorIndex := 6, attributes := #[] }, { accessFlags := 16409, nameIndex := 12, descriptorIndex := 6, attributes := #[] }, { accessFlags := 16409, nameIndex := 15, descriptorIndex := 6, attributes := #[] }, { accessFlags := 4122, nameIndex := 18, descriptorIndex := 19, attributes := #[] }])
  fields := #[{ name := "DONE", type := (.object "com/example/runqueue/runqueue/Outcome$State"), accessFlags := 16409, slot := 0, constantValue := 0 }, { name := "FAILED", type := (.object "com/example/runqueue/runqueue/Outcome$State"), accessFlags := 16409, slot := 1, constantValue := 0 }, { name := "TIMEOUT", type := (.object "com/example/runqueue/runqueue/Outcome$State"), accessFlags := 16409, slot := 2, constantValue := 0 }, { name := "SKIPPED", type := (.object "com/example/runqueue/runqueue/Outcome$State"), accessFlags := 16409, slot := 3, constantValue := 0 }, { name := "$VALUES", type := (.array (.object "com/example/runqueue/runqueue/Outcome$State")), accessFlags := 4122, slot := 4, constantValue := 0 }]
  methods := #[]
  instanceTypes := #[(.object "java/lang/String"), .int, .int]
  staticTypes := #[(.object "com/example/runqueue/runqueue/Outcome$State"), (.object "com/example/runqueue/runqueue/Outcome$State"), (.object "com/example/runqueue/runqueue/Outcome$State"), (.object "com/example/runqueue/runqueue/Outcome$State"), (.array (.object "com/example/runqueue/runqueue/Outcome$State"))]
  resolved := Array.replicate 77 none
  statics := some 0 }

def pool7 : Array CpInfo := pool [(1, .methodref 2 3), (0, .class_ 4), (0, .nameAndType 5 6), (0, u "java/lang/Object"), (0, u "<init>"), (0, u "()V"), (0, .class_ 8), (0, u "java/lang/Record")] 13

def k7c0 : Code := { maxStack := 1, maxLocals := 1, code := jdk_30_method_1_code, exceptionTable := #[], attributes := #[] }
def k7m0 : Method := { name := "<init>", desc := "()V", sig := { parameters := [], returnType := none }, accessFlags := 4, code := some k7c0 }
/-- java/lang/Record -/
def k7 : Class := { plain "java/lang/Record" (some 0) with
  accessFlags := 1057
  interfaces := #[]
  cf := some (fileOf pool7 7 #[] #[{ accessFlags := 4, nameIndex := 5, descriptorIndex := 6, attributes := #[] }] 1057 2 #[] #[])
  fields := #[]
  methods := #[k7m0]
  instanceTypes := #[]
  staticTypes := #[]
  resolved := Array.replicate 22 none
  statics := none }

def pool8 : Array CpInfo := pool [(1, .methodref 2 3), (0, .class_ 4), (0, .nameAndType 5 6), (0, u "java/lang/Record"), (0, u "<init>"), (0, u "()V"), (0, .string 8), (0, u "id"), (0, .methodref 10 11), (0, .class_ 12), (0, .nameAndType 13 14), (0, u "java/util/Objects"), (0, u "requireNonNull"), (0, u "(Ljava/lang/Object;Ljava/lang/String;)Ljava/lang/Object;"), (0, .string 16), (0, u "name"), (0, .string 18), (0, u "command"), (0, .fieldref 20 21), (0, .class_ 22), (0, .nameAndType 8 23), (0, u "com/example/runqueue/runqueue/Job"), (0, u "Ljava/lang/String;"), (0, .fieldref 20 25), (0, .nameAndType 16 23), (0, .fieldref 20 27), (0, .nameAndType 18 23), (0, .fieldref 20 29), (0, .nameAndType 30 31), (0, u "timeoutMillis"), (0, u "J"), (0, .fieldref 20 33), (0, .nameAndType 34 35), (0, u "maxAttempts"), (0, u "I"), (2, u "(Ljava/lang/String;Ljava/lang/String;Ljava/lang/String;JI)V"), (17, u "()I")] 26

def k8c0 : Code := { maxStack := 3, maxLocals := 7, code := prog_12_method_1_code, exceptionTable := #[], attributes := #[] }
def k8m0 : Method := { name := "<init>", desc := "(Ljava/lang/String;Ljava/lang/String;Ljava/lang/String;JI)V", sig := { parameters := [(.object "java/lang/String"), (.object "java/lang/String"), (.object "java/lang/String"), .long, .int], returnType := none }, accessFlags := 1, code := some k8c0 }
def k8c1 : Code := { maxStack := 1, maxLocals := 1, code := prog_12_method_10_code, exceptionTable := #[], attributes := #[] }
def k8m1 : Method := { name := "maxAttempts", desc := "()I", sig := { parameters := [], returnType := some .int }, accessFlags := 1, code := some k8c1 }
/-- com/example/runqueue/runqueue/Job -/
def k8 : Class := { plain "com/example/runqueue/runqueue/Job" (some 7) with
  accessFlags := 49
  interfaces := #[]
  cf := some (fileOf pool8 20 #[] #[{ accessFlags := 1, nameIndex := 5, descriptorIndex := 38, attributes := #[] }, { accessFlags := 1, nameIndex := 34, descriptorIndex := 56, attributes := #[] }] 49 2 #[] #[{ accessFlags := 18, nameIndex := 8, descriptorIndex := 23, attributes := #[] }, { accessFlags := 18, nameIndex := 16, descriptorIndex := 23, attributes := #[] }, { accessFlags := 18, nameIndex := 18, descriptorIndex := 23, attributes := #[] }, { accessFlags := 18, nameIndex := 30, descriptorIndex := 31, attributes := #[] }, { accessFlags := 18, nameIndex := 34, descriptorIndex := 35, attributes := #[] }])
  fields := #[{ name := "id", type := (.object "java/lang/String"), accessFlags := 18, slot := 0, constantValue := 0 }, { name := "name", type := (.object "java/lang/String"), accessFlags := 18, slot := 1, constantValue := 0 }, { name := "command", type := (.object "java/lang/String"), accessFlags := 18, slot := 2, constantValue := 0 }, { name := "timeoutMillis", type := .long, accessFlags := 18, slot := 3, constantValue := 0 }, { name := "maxAttempts", type := .int, accessFlags := 18, slot := 4, constantValue := 0 }]
  methods := #[k8m0, k8m1]
  instanceTypes := #[(.object "java/lang/String"), (.object "java/lang/String"), (.object "java/lang/String"), .long, .int]
  staticTypes := #[]
  resolved := Array.replicate 83 none
  statics := none }

def pool9 : Array CpInfo := pool [(2, .class_ 4), (1, u "java/lang/CharSequence"), (42, .class_ 48), (0, u "java/lang/CharSequence$1CodePointIterator"), (10, .class_ 60), (0, u "java/lang/CharSequence$1CharIterator"), (5, .class_ 67), (0, u "java/lang/Object")] 63

/-- java/lang/CharSequence -/
def k9 : Class := { plain "java/lang/CharSequence" (some 0) with
  accessFlags := 1537
  interfaces := #[]
  cf := some (fileOf pool9 2 #[.nestMembers #[47, 59]] #[] 1537 66 #[] #[])
  fields := #[]
  methods := #[]
  instanceTypes := #[]
  staticTypes := #[]
  resolved := Array.replicate 131 none
  statics := none }

def pool10 : Array CpInfo := pool [(1, .class_ 2), (0, u "java/lang/constant/ConstantDesc"), (0, .class_ 4), (0, u "java/lang/Object")] 32

/-- java/lang/constant/ConstantDesc -/
def k10 : Class := { plain "java/lang/constant/ConstantDesc" (some 0) with
  accessFlags := 1537
  interfaces := #[]
  cf := some (fileOf pool10 1 #[] #[] 1537 3 #[] #[])
  fields := #[]
  methods := #[]
  instanceTypes := #[]
  staticTypes := #[]
  resolved := Array.replicate 37 none
  statics := none }

def pool11 : Array CpInfo := pool [(2, .class_ 4), (1, u "java/lang/Object"), (0, u "<init>"), (0, u "()V"), (3, .class_ 12), (1, u "java/lang/String"), (0, u "value"), (0, u "[B"), (2, u "coder"), (0, u "B"), (2, u "hash"), (0, u "I"), (2, u "hashIsZero"), (0, u "Z"), (13, u "COMPACT_STRINGS"), (534, .class_ 576), (0, u "java/lang/CharSequence"), (22, u "CASE_INSENSITIVE_ORDER"), (0, u "Ljava/util/Comparator;"), (500, u "serialPersistentFields"), (0, u "[Ljava/io/ObjectStreamField;"), (0, .class_ 1104), (0, u "java/lang/String$CaseInsensitiveComparator"), (1, .class_ 1107), (0, u "java/io/Serializable"), (0, .class_ 1109), (0, u "java/lang/Comparable"), (0, .class_ 1111), (0, u "java/lang/constant/Constable"), (0, .class_ 1113), (0, u "java/lang/constant/ConstantDesc"), (2, u "serialVersionUID"), (0, u "J"), (3, u "REPL"), (0, u "C"), (2, u "LATIN1"), (1, u "UTF16")] 323

def k11m0 : Method := { name := "<init>", desc := "()V", sig := { parameters := [], returnType := none }, accessFlags := 1, code := none }
/-- java/lang/String -/
def k11 : Class := { plain "java/lang/String" (some 0) with
  accessFlags := 49
  interfaces := #[4, 3, 9, 2, 10]
  cf := some (fileOf pool11 10 #[.nestMembers #[1103]] #[{ accessFlags := 1, nameIndex := 5, descriptorIndex := 6, attributes := #[] }] 49 2 #[1106, 1108, 575, 1110, 1112] #[{ accessFlags := 18, nameIndex := 13, descriptorIndex := 14, attributes := #[] }, { accessFlags := 18, nameIndex := 17, descriptorIndex := 18, attributes := #[] }, { accessFlags := 2, nameIndex := 21, descriptorIndex := 22, attributes := #[] }, { accessFlags := 2, nameIndex := 25, descriptorIndex := 26, attributes := #[] }, { accessFlags := 26, nameIndex := 1116, descriptorIndex := 1117, attributes := #[] }, { accessFlags := 24, nameIndex := 40, descriptorIndex := 26, attributes := #[] }, { accessFlags := 26, nameIndex := 1101, descriptorIndex := 1102, attributes := #[] }, { accessFlags := 26, nameIndex := 1121, descriptorIndex := 1122, attributes := #[] }, { accessFlags := 25, nameIndex := 599, descriptorIndex := 600, attributes := #[] }, { accessFlags := 24, nameIndex := 1125, descriptorIndex := 18, attributes := #[] }, { accessFlags := 24, nameIndex := 1127, descriptorIndex := 18, attributes := #[] }])
  fields := #[{ name := "value", type := (.array .byte), accessFlags := 18, slot := 0, constantValue := 0 }, { name := "coder", type := .byte, accessFlags := 18, slot := 1, constantValue := 0 }, { name := "hash", type := .int, accessFlags := 2, slot := 2, constantValue := 0 }, { name := "hashIsZero", type := .boolean, accessFlags := 2, slot := 3, constantValue := 0 }, { name := "serialVersionUID", type := .long, accessFlags := 26, slot := 0, constantValue := 0 }, { name := "COMPACT_STRINGS", type := .boolean, accessFlags := 24, slot := 1, constantValue := 0 }, { name := "serialPersistentFields", type := (.array (.object "java/io/ObjectStreamField")), accessFlags := 26, slot := 2, constantValue := 0 }, { name := "REPL", type := .char, accessFlags := 26, slot := 3, constantValue := 0 }, { name := "CASE_INSENSITIVE_ORDER", type := (.object "java/util/Comparator"), accessFlags := 25, slot := 4, constantValue := 0 }, { name := "LATIN1", type := .byte, accessFlags := 24, slot := 5, constantValue := 0 }, { name := "UTF16", type := .byte, accessFlags := 24, slot := 6, constantValue := 0 }]
  methods := #[k11m0]
  instanceTypes := #[(.array .byte), .byte, .int, .boolean]
  staticTypes := #[.long, .boolean, (.array (.object "java/io/ObjectStreamField")), .char, (.object "java/util/Comparator"), .byte, .byte]
  resolved := Array.replicate 1451 none
  statics := none }

def pool12 : Array CpInfo := pool [(2, .class_ 4), (1, u "java/lang/Object"), (0, u "<init>"), (0, u "()V"), (35, .class_ 44), (1, u "java/util/Objects"), (0, u "requireNonNull"), (48, u "(Ljava/lang/Object;Ljava/lang/String;)Ljava/lang/Object;")] 89

def k12m0 : Method := { name := "<init>", desc := "()V", sig := { parameters := [], returnType := none }, accessFlags := 2, code := none }
def k12c1 : Code := { maxStack := 3, maxLocals := 2, code := jdk_31_method_11_code, exceptionTable := #[], attributes := #[] }
def k12m1 : Method := { name := "requireNonNull", desc := "(Ljava/lang/Object;Ljava/lang/String;)Ljava/lang/Object;", sig := { parameters := [(.object "java/lang/Object"), (.object "java/lang/String")], returnType := some (.object "java/lang/Object") }, accessFlags := 9, code := some k12c1 }
/-- java/util/Objects -/
def k12 : Class := { plain "java/util/Objects" (some 0) with
  accessFlags := 49
  interfaces := #[]
  cf := some (fileOf pool12 42 #[] #[{ accessFlags := 2, nameIndex := 5, descriptorIndex := 6, attributes := #[] }, { accessFlags := 9, nameIndex := 45, descriptorIndex := 94, attributes := #[] }] 49 2 #[] #[])
  fields := #[]
  methods := #[k12m0, k12m1]
  instanceTypes := #[]
  staticTypes := #[]
  resolved := Array.replicate 184 none
  statics := none }

def pool13 : Array CpInfo := pool [(1, .methodref 2 3), (0, .class_ 4), (0, .nameAndType 5 6), (0, u "java/lang/Record"), (0, u "<init>"), (0, u "()V"), (0, .fieldref 8 9), (0, .class_ 10), (0, .nameAndType 11 12), (0, u "com/example/runqueue/runqueue/Outcome"), (0, u "job"), (0, u "Lcom/example/runqueue/runqueue/Job;"), (0, .fieldref 8 14), (0, .nameAndType 15 16), (0, u "state"), (0, u "Lcom/example/runqueue/runqueue/Outcome$State;"), (0, .fieldref 8 18), (0, .nameAndType 19 20), (0, u "attempts"), (0, u "I"), (0, .fieldref 8 22), (0, .nameAndType 23 24), (0, u "last"), (0, u "Lcom/example/runqueue/runqueue/Outcome$Run;"), (1, .class_ 28), (1, u "com/example/runqueue/runqueue/Outcome$State"), (3, u "(Lcom/example/runqueue/runqueue/Job;Lcom/example/runqueue/runqueue/Outcome$State;ILcom/example/runqueue/runqueue/Outcome$Run;)V"), (18, u "()I"), (1, u "()Lcom/example/runqueue/runqueue/Job;"), (0, u "()Lcom/example/runqueue/runqueue/Outcome$State;"), (4, .class_ 60), (0, u "com/example/runqueue/runqueue/Outcome$Run")] 23

def k13c0 : Code := { maxStack := 2, maxLocals := 5, code := prog_28_method_1_code, exceptionTable := #[], attributes := #[] }
def k13m0 : Method := { name := "<init>", desc := "(Lcom/example/runqueue/runqueue/Job;Lcom/example/runqueue/runqueue/Outcome$State;ILcom/example/runqueue/runqueue/Outcome$Run;)V", sig := { parameters := [(.object "com/example/runqueue/runqueue/Job"), (.object "com/example/runqueue/runqueue/Outcome$State"), .int, (.object "com/example/runqueue/runqueue/Outcome$Run")], returnType := none }, accessFlags := 0, code := some k13c0 }
def k13c1 : Code := { maxStack := 1, maxLocals := 1, code := prog_28_method_6_code, exceptionTable := #[], attributes := #[] }
def k13m1 : Method := { name := "job", desc := "()Lcom/example/runqueue/runqueue/Job;", sig := { parameters := [], returnType := some (.object "com/example/runqueue/runqueue/Job") }, accessFlags := 1, code := some k13c1 }
def k13c2 : Code := { maxStack := 1, maxLocals := 1, code := prog_28_method_7_code, exceptionTable := #[], attributes := #[] }
def k13m2 : Method := { name := "state", desc := "()Lcom/example/runqueue/runqueue/Outcome$State;", sig := { parameters := [], returnType := some (.object "com/example/runqueue/runqueue/Outcome$State") }, accessFlags := 1, code := some k13c2 }
def k13c3 : Code := { maxStack := 1, maxLocals := 1, code := prog_28_method_8_code, exceptionTable := #[], attributes := #[] }
def k13m3 : Method := { name := "attempts", desc := "()I", sig := { parameters := [], returnType := some .int }, accessFlags := 1, code := some k13c3 }
/-- com/example/runqueue/runqueue/Outcome -/
def k13 : Class := { plain "com/example/runqueue/runqueue/Outcome" (some 7) with
  accessFlags := 48
  interfaces := #[]
  cf := some (fileOf pool13 8 #[.nestMembers #[26, 59]] #[{ accessFlags := 0, nameIndex := 5, descriptorIndex := 32, attributes := #[] }, { accessFlags := 1, nameIndex := 11, descriptorIndex := 53, attributes := #[] }, { accessFlags := 1, nameIndex := 15, descriptorIndex := 54, attributes := #[] }, { accessFlags := 1, nameIndex := 19, descriptorIndex := 51, attributes := #[] }] 48 2 #[] #[{ accessFlags := 18, nameIndex := 11, descriptorIndex := 12, attributes := #[] }, { accessFlags := 18, nameIndex := 15, descriptorIndex := 16, attributes := #[] }, { accessFlags := 18, nameIndex := 19, descriptorIndex := 20, attributes := #[] }, { accessFlags := 18, nameIndex := 23, descriptorIndex := 24, attributes := #[] }])
  fields := #[{ name := "job", type := (.object "com/example/runqueue/runqueue/Job"), accessFlags := 18, slot := 0, constantValue := 0 }, { name := "state", type := (.object "com/example/runqueue/runqueue/Outcome$State"), accessFlags := 18, slot := 1, constantValue := 0 }, { name := "attempts", type := .int, accessFlags := 18, slot := 2, constantValue := 0 }, { name := "last", type := (.object "com/example/runqueue/runqueue/Outcome$Run"), accessFlags := 18, slot := 3, constantValue := 0 }]
  methods := #[k13m0, k13m1, k13m2, k13m3]
  instanceTypes := #[(.object "com/example/runqueue/runqueue/Job"), (.object "com/example/runqueue/runqueue/Outcome$State"), .int, (.object "com/example/runqueue/runqueue/Outcome$Run")]
  staticTypes := #[]
  resolved := Array.replicate 84 none
  statics := none }

def pool14 : Array CpInfo := pool [(1, .methodref 2 3), (0, .class_ 4), (0, .nameAndType 5 6), (0, u "java/lang/Record"), (0, u "<init>"), (0, u "()V"), (0, .fieldref 8 9), (0, .class_ 10), (0, .nameAndType 11 12), (0, u "com/example/runqueue/runqueue/Retries"), (0, u "count"), (0, u "I"), (0, .fieldref 8 14), (0, .nameAndType 15 16), (0, u "backoffMillis"), (0, u "J"), (0, .methodref 18 19), (0, .class_ 20), (0, .nameAndType 21 22), (0, u "com/example/runqueue/runqueue/Outcome"), (0, u "state"), (0, u "()Lcom/example/runqueue/runqueue/Outcome$State;"), (0, .methodref 18 24), (0, .nameAndType 25 26), (0, u "job"), (0, u "()Lcom/example/runqueue/runqueue/Job;"), (0, .methodref 28 29), (0, .class_ 30), (0, .nameAndType 31 32), (0, u "com/example/runqueue/runqueue/Job"), (0, u "maxAttempts"), (0, u "()I"), (0, .fieldref 34 35), (0, .class_ 36), (0, .nameAndType 37 38), (0, u "com/example/runqueue/runqueue/Outcome$State"), (0, u "FAILED"), (0, u "Lcom/example/runqueue/runqueue/Outcome$State;"), (0, .fieldref 34 40), (0, .nameAndType 41 38), (0, u "TIMEOUT"), (0, .methodref 18 43), (0, .nameAndType 44 32), (0, u "attempts"), (23, u "MAX_COUNT"), (2, u "MAX_PAUSE_SECONDS"), (1, u "(IJ)V"), (3, u "again"), (0, u "(Lcom/example/runqueue/runqueue/Outcome;)Z")] 28

def k14c0 : Code := { maxStack := 3, maxLocals := 4, code := prog_36_method_1_code, exceptionTable := #[], attributes := #[] }
def k14m0 : Method := { name := "<init>", desc := "(IJ)V", sig := { parameters := [.int, .long], returnType := none }, accessFlags := 0, code := some k14c0 }
def k14c1 : Code := { maxStack := 2, maxLocals := 4, code := prog_36_method_2_code, exceptionTable := #[], attributes := #[] }
def k14m1 : Method := { name := "again", desc := "(Lcom/example/runqueue/runqueue/Outcome;)Z", sig := { parameters := [(.object "com/example/runqueue/runqueue/Outcome")], returnType := some .boolean }, accessFlags := 0, code := some k14c1 }
/-- com/example/runqueue/runqueue/Retries -/
def k14 : Class := { plain "com/example/runqueue/runqueue/Retries" (some 7) with
  accessFlags := 48
  interfaces := #[]
  cf := some (fileOf pool14 8 #[] #[{ accessFlags := 0, nameIndex := 5, descriptorIndex := 73, attributes := #[] }, { accessFlags := 0, nameIndex := 77, descriptorIndex := 78, attributes := #[] }] 48 2 #[] #[{ accessFlags := 18, nameIndex := 11, descriptorIndex := 12, attributes := #[] }, { accessFlags := 18, nameIndex := 15, descriptorIndex := 16, attributes := #[] }, { accessFlags := 24, nameIndex := 68, descriptorIndex := 12, attributes := #[] }, { accessFlags := 24, nameIndex := 71, descriptorIndex := 12, attributes := #[] }])
  fields := #[{ name := "count", type := .int, accessFlags := 18, slot := 0, constantValue := 0 }, { name := "backoffMillis", type := .long, accessFlags := 18, slot := 1, constantValue := 0 }, { name := "MAX_COUNT", type := .int, accessFlags := 24, slot := 0, constantValue := 0 }, { name := "MAX_PAUSE_SECONDS", type := .int, accessFlags := 24, slot := 1, constantValue := 0 }]
  methods := #[k14m0, k14m1]
  instanceTypes := #[.int, .long]
  staticTypes := #[.int, .int]
  resolved := Array.replicate 107 none
  statics := none }

def pool15 : Array CpInfo := pool [(1, u "java/lang/Cloneable"), (0, .class_ 1), (0, u "java/lang/Object"), (0, .class_ 3)] 3

/-- java/lang/Cloneable -/
def k15 : Class := { plain "java/lang/Cloneable" (some 0) with
  accessFlags := 1537
  interfaces := #[]
  cf := some (fileOf pool15 2 #[] #[] 1537 4 #[] #[])
  fields := #[]
  methods := #[]
  instanceTypes := #[]
  staticTypes := #[]
  resolved := Array.replicate 8 none
  statics := none }

/-- the primitive byte -/
def k16 : Class := { plain "byte" none with kind := .primitive 'B', accessFlags := 0x411 }
/-- [B -/
def k17 : Class := { plain "[B" (some 0) with kind := .array 16 .byte, interfaces := #[15, 4], accessFlags := 1041 }

/-- the primitive int -/
def k18 : Class := { plain "int" none with kind := .primitive 'I', accessFlags := 0x411 }
/-- [I -/
def k19 : Class := { plain "[I" (some 0) with kind := .array 18 .int, interfaces := #[15, 4], accessFlags := 1041 }

def heap : Heap := #[{ cls := 6, slots := #[.ref 1, .ref 2, .ref 3, .ref 4, .null], vm := .statics 6 },
  { cls := 6, slots := #[.null, .int 0, .int 0], vm := .none },
  { cls := 6, slots := #[.null, .int 1, .int 0], vm := .none },
  { cls := 6, slots := #[.null, .int 2, .int 0], vm := .none },
  { cls := 6, slots := #[.null, .int 3, .int 0], vm := .none }]
def classes : Array Class := #[k0, k1, k2, k3, k4, k5, k6, k7, k8, k9, k10, k11, k12, k13, k14, k15, k16, k17, k18, k19]
def interned : List (Array UInt16 × Addr) := []
def slotsUsed : Nat := 17
def theMethod : MethodId := ⟨1, 1⟩
def args0 : Array Value := #[.int 1, .long 5, .int 3, .int 1, .int 1]
def aboutOver (below : List Frame) : State where
  vm := { classes := classes, interned := interned.toArray }
  heap := heap
  slotsUsed := slotsUsed
  threads := #[{ frames := .invoking theMethod args0 :: below }]
def below0 : List Frame := [.native { method := ⟨0, 0⟩, args := #[] }]
def about1 : State := aboutOver below0
def p0 : Program := .bare "" "" ""
def e0 : Env := launch0.env 0 0 0
theorem w_frames : about1.frames = Frame.invoking theMethod args0 :: below0 := rfl
set_option maxRecDepth 65536 in
theorem w_args : argsFit about1.vm theMethod args0 = true := by decide +kernel
set_option maxRecDepth 65536 in
theorem w_heap : heapFits about1 = true := by decide +kernel
set_option maxRecDepth 65536 in
theorem w_runnable : about1.curStatus? = some .runnable := by decide +kernel
set_option maxRecDepth 65536 in
theorem w_alone : about1.alone = true := by decide +kernel
set_option maxRecDepth 65536 in
theorem w_named : about1.methodNamed? x = some theMethod := by decide +kernel
set_option maxRecDepth 65536 in
theorem w_hears : about1.hears theMethod below0 = true := by decide +kernel
set_option maxRecDepth 65536 in
theorem w_ripe : about1.ripe theMethod args0 below0 = true := by decide +kernel
theorem w_running : about1.status = .running := rfl
set_option maxRecDepth 65536 in
theorem w_room : about1.hasRoom e0.platform room_1 = true :=
  launch0.hasRoom_least _ room_1 (by decide +kernel) (by decide +kernel) (by decide +kernel) (by decide +kernel) (by decide +kernel) (by decide +kernel)
theorem allAtoms_all (ts : List Jvm.Cond) (a : Array Jvm.Value) (st : Jvm.State) : (allAtoms ts).before a st = ts.all (fun c => c.before a st) := by
  induction ts with
  | nil => rfl
  | cons c t ih =>
    show (Jvm.Cond.and c (allAtoms t)).before a st = _
    rw [Jvm.Cond.before_and, ih, List.all_cons]
def words1 : List Jvm.Cond := Jvm.Cond.code x code maxLocals ret :: tables_1
/-- a 'code' word, met by the world's own term for the bytes: nothing is compared byte by byte -/
theorem code_word {y : MethodName} {bytes : ByteArray} {mx : Nat} {rt : Option FieldType} {a : Array Value} {s : State} {m : MethodId} {meth : Method} {c : Code} (h1 : s.methodNamed? y = some m) (h2 : s.vm.method? m = some meth) (h3 : meth.code = some c) (h4 : c.code = bytes)
    (h5 : (c.maxLocals == mx && c.exceptionTable.isEmpty && decide (c.maxStack ≤ mostOperands) && decide (meth.sig.returnType = rt) && !meth.locks && decide (parseMethodDescriptor y.desc = some meth.sig)) = true) : (Jvm.Cond.code y bytes mx rt).before a s = true := by
  simp only [Bool.and_eq_true, beq_iff_eq, Bool.not_eq_true', decide_eq_true_eq] at h5
  obtain ⟨⟨⟨⟨⟨g1, g2⟩, g3⟩, g4⟩, g5⟩, g6⟩ := h5
  simp [Cond.before, Cond.holds, Cond.value, h1, h2, h3, h4, g1, g2, g3, g4, g5, g6]
def isCode : Jvm.Cond → Bool
  | .code _ _ _ _ => true
  | _ => false
theorem all_split {L : List Jvm.Cond} {P : Jvm.Cond → Bool} (h1 : L.all (fun c => isCode c || P c) = true) (h2 : ∀ c ∈ L.filter isCode, P c = true) : L.all P = true := by
  refine List.all_eq_true.mpr fun c hc => ?_
  have h := List.all_eq_true.mp h1 c hc
  rcases Bool.eq_false_or_eq_true (isCode c) with hi | hi
  · exact h2 c (List.mem_filter.mpr ⟨hc, hi⟩)
  · simpa [hi] using h
set_option maxRecDepth 65536 in
theorem w_c0 : (Jvm.Cond.code x code maxLocals ret).before args0 about1 = true := code_word (m := ⟨1, 1⟩) (meth := k1m1) (c := k1c1) (by decide +kernel) rfl rfl rfl (by decide +kernel)
set_option maxRecDepth 65536 in
theorem w_c1 : (Jvm.Cond.code ({ cls := "com/example/runqueue/runqueue/Job", name := "<init>", desc := "(Ljava/lang/String;Ljava/lang/String;Ljava/lang/String;JI)V" } : Jvm.MethodName) prog_12_method_1_code (7 : Nat) (Option.none : Option Jvm.ClassFile.FieldType)).before args0 about1 = true := code_word (m := ⟨8, 0⟩) (meth := k8m0) (c := k8c0) (by decide +kernel) rfl rfl rfl (by decide +kernel)
set_option maxRecDepth 65536 in
theorem w_c2 : (Jvm.Cond.code ({ cls := "java/lang/Record", name := "<init>", desc := "()V" } : Jvm.MethodName) jdk_30_method_1_code (1 : Nat) (Option.none : Option Jvm.ClassFile.FieldType)).before args0 about1 = true := code_word (m := ⟨7, 0⟩) (meth := k7m0) (c := k7c0) (by decide +kernel) rfl rfl rfl (by decide +kernel)
set_option maxRecDepth 65536 in
theorem w_c3 : (Jvm.Cond.code ({ cls := "java/lang/Object", name := "<init>", desc := "()V" } : Jvm.MethodName) object_method_1_code (1 : Nat) (Option.none : Option Jvm.ClassFile.FieldType)).before args0 about1 = true := code_word (m := ⟨0, 0⟩) (meth := k0m0) (c := k0c0) (by decide +kernel) rfl rfl rfl (by decide +kernel)
set_option maxRecDepth 65536 in
theorem w_c4 : (Jvm.Cond.code ({ cls := "java/util/Objects", name := "requireNonNull", desc := "(Ljava/lang/Object;Ljava/lang/String;)Ljava/lang/Object;" } : Jvm.MethodName) jdk_31_method_11_code (2 : Nat) (Option.some (Jvm.ClassFile.FieldType.object "java/lang/Object"))).before args0 about1 = true := code_word (m := ⟨12, 1⟩) (meth := k12m1) (c := k12c1) (by decide +kernel) rfl rfl rfl (by decide +kernel)
set_option maxRecDepth 65536 in
theorem w_c5 : (Jvm.Cond.code ({ cls := "com/example/runqueue/runqueue/Outcome", name := "<init>", desc := "(Lcom/example/runqueue/runqueue/Job;Lcom/example/runqueue/runqueue/Outcome$State;ILcom/example/runqueue/runqueue/Outcome$Run;)V" } : Jvm.MethodName) prog_28_method_1_code (5 : Nat) (Option.none : Option Jvm.ClassFile.FieldType)).before args0 about1 = true := code_word (m := ⟨13, 0⟩) (meth := k13m0) (c := k13c0) (by decide +kernel) rfl rfl rfl (by decide +kernel)
set_option maxRecDepth 65536 in
theorem w_c6 : (Jvm.Cond.code ({ cls := "com/example/runqueue/runqueue/Retries", name := "<init>", desc := "(IJ)V" } : Jvm.MethodName) prog_36_method_1_code (4 : Nat) (Option.none : Option Jvm.ClassFile.FieldType)).before args0 about1 = true := code_word (m := ⟨14, 0⟩) (meth := k14m0) (c := k14c0) (by decide +kernel) rfl rfl rfl (by decide +kernel)
set_option maxRecDepth 65536 in
theorem w_c7 : (Jvm.Cond.code ({ cls := "com/example/runqueue/runqueue/Retries", name := "again", desc := "(Lcom/example/runqueue/runqueue/Outcome;)Z" } : Jvm.MethodName) prog_36_method_2_code (4 : Nat) (Option.some Jvm.ClassFile.FieldType.boolean)).before args0 about1 = true := code_word (m := ⟨14, 1⟩) (meth := k14m1) (c := k14c1) (by decide +kernel) rfl rfl rfl (by decide +kernel)
set_option maxRecDepth 65536 in
theorem w_c8 : (Jvm.Cond.code ({ cls := "com/example/runqueue/runqueue/Outcome", name := "state", desc := "()Lcom/example/runqueue/runqueue/Outcome$State;" } : Jvm.MethodName) prog_28_method_7_code (1 : Nat) (Option.some (Jvm.ClassFile.FieldType.object "com/example/runqueue/runqueue/Outcome$State"))).before args0 about1 = true := code_word (m := ⟨13, 2⟩) (meth := k13m2) (c := k13c2) (by decide +kernel) rfl rfl rfl (by decide +kernel)
set_option maxRecDepth 65536 in
theorem w_c9 : (Jvm.Cond.code ({ cls := "com/example/runqueue/runqueue/Outcome", name := "job", desc := "()Lcom/example/runqueue/runqueue/Job;" } : Jvm.MethodName) prog_28_method_6_code (1 : Nat) (Option.some (Jvm.ClassFile.FieldType.object "com/example/runqueue/runqueue/Job"))).before args0 about1 = true := code_word (m := ⟨13, 1⟩) (meth := k13m1) (c := k13c1) (by decide +kernel) rfl rfl rfl (by decide +kernel)
set_option maxRecDepth 65536 in
theorem w_c10 : (Jvm.Cond.code ({ cls := "com/example/runqueue/runqueue/Job", name := "maxAttempts", desc := "()I" } : Jvm.MethodName) prog_12_method_10_code (1 : Nat) (Option.some Jvm.ClassFile.FieldType.int)).before args0 about1 = true := code_word (m := ⟨8, 1⟩) (meth := k8m1) (c := k8c1) (by decide +kernel) rfl rfl rfl (by decide +kernel)
set_option maxRecDepth 65536 in
theorem w_c11 : (Jvm.Cond.code ({ cls := "com/example/runqueue/runqueue/Outcome", name := "attempts", desc := "()I" } : Jvm.MethodName) prog_28_method_8_code (1 : Nat) (Option.some Jvm.ClassFile.FieldType.int)).before args0 about1 = true := code_word (m := ⟨13, 3⟩) (meth := k13m3) (c := k13c3) (by decide +kernel) rfl rfl rfl (by decide +kernel)
def codes1 : List Jvm.Cond := [Jvm.Cond.code x code maxLocals ret, Jvm.Cond.code ({ cls := "com/example/runqueue/runqueue/Job", name := "<init>", desc := "(Ljava/lang/String;Ljava/lang/String;Ljava/lang/String;JI)V" } : Jvm.MethodName) prog_12_method_1_code (7 : Nat) (Option.none : Option Jvm.ClassFile.FieldType), Jvm.Cond.code ({ cls := "java/lang/Record", name := "<init>", desc := "()V" } : Jvm.MethodName) jdk_30_method_1_code (1 : Nat) (Option.none : Option Jvm.ClassFile.FieldType), Jvm.Cond.code ({ cls := "java/lang/Object", name := "<init>", desc := "()V" } : Jvm.MethodName) object_method_1_code (1 : Nat) (Option.none : Option Jvm.ClassFile.FieldType), Jvm.Cond.code ({ cls := "java/util/Objects", name := "requireNonNull", desc := "(Ljava/lang/Object;Ljava/lang/String;)Ljava/lang/Object;" } : Jvm.MethodName) jdk_31_method_11_code (2 : Nat) (Option.some (Jvm.ClassFile.FieldType.object "java/lang/Object")), Jvm.Cond.code ({ cls := "com/example/runqueue/runqueue/Outcome", name := "<init>", desc := "(Lcom/example/runqueue/runqueue/Job;Lcom/example/runqueue/runqueue/Outcome$State;ILcom/example/runqueue/runqueue/Outcome$Run;)V" } : Jvm.MethodName) prog_28_method_1_code (5 : Nat) (Option.none : Option Jvm.ClassFile.FieldType), Jvm.Cond.code ({ cls := "com/example/runqueue/runqueue/Retries", name := "<init>", desc := "(IJ)V" } : Jvm.MethodName) prog_36_method_1_code (4 : Nat) (Option.none : Option Jvm.ClassFile.FieldType), Jvm.Cond.code ({ cls := "com/example/runqueue/runqueue/Retries", name := "again", desc := "(Lcom/example/runqueue/runqueue/Outcome;)Z" } : Jvm.MethodName) prog_36_method_2_code (4 : Nat) (Option.some Jvm.ClassFile.FieldType.boolean), Jvm.Cond.code ({ cls := "com/example/runqueue/runqueue/Outcome", name := "state", desc := "()Lcom/example/runqueue/runqueue/Outcome$State;" } : Jvm.MethodName) prog_28_method_7_code (1 : Nat) (Option.some (Jvm.ClassFile.FieldType.object "com/example/runqueue/runqueue/Outcome$State")), Jvm.Cond.code ({ cls := "com/example/runqueue/runqueue/Outcome", name := "job", desc := "()Lcom/example/runqueue/runqueue/Job;" } : Jvm.MethodName) prog_28_method_6_code (1 : Nat) (Option.some (Jvm.ClassFile.FieldType.object "com/example/runqueue/runqueue/Job")), Jvm.Cond.code ({ cls := "com/example/runqueue/runqueue/Job", name := "maxAttempts", desc := "()I" } : Jvm.MethodName) prog_12_method_10_code (1 : Nat) (Option.some Jvm.ClassFile.FieldType.int), Jvm.Cond.code ({ cls := "com/example/runqueue/runqueue/Outcome", name := "attempts", desc := "()I" } : Jvm.MethodName) prog_28_method_8_code (1 : Nat) (Option.some Jvm.ClassFile.FieldType.int)]
set_option maxRecDepth 65536 in
theorem codes_eq : words1.filter isCode = codes1 := rfl
theorem w_codes : ∀ c ∈ words1.filter isCode, c.before args0 about1 = true := by
  rw [codes_eq]
  intro c hc
  simp only [codes1, List.mem_cons, List.not_mem_nil, or_false] at hc
  rcases hc with rfl | rfl | rfl | rfl | rfl | rfl | rfl | rfl | rfl | rfl | rfl | rfl
  · exact w_c0
  · exact w_c1
  · exact w_c2
  · exact w_c3
  · exact w_c4
  · exact w_c5
  · exact w_c6
  · exact w_c7
  · exact w_c8
  · exact w_c9
  · exact w_c10
  · exact w_c11
set_option maxRecDepth 65536 in
theorem w_t1 : (words1.take 24).all (fun c => isCode c || c.before args0 about1) = true := by decide +kernel
set_option maxRecDepth 65536 in
theorem w_t2 : ((words1.drop 24).take 24).all (fun c => isCode c || c.before args0 about1) = true := by decide +kernel
set_option maxRecDepth 65536 in
theorem w_t3 : (((words1.drop 24).drop 24).take 24).all (fun c => isCode c || c.before args0 about1) = true := by decide +kernel
set_option maxRecDepth 65536 in
theorem w_t4 : ((((words1.drop 24).drop 24).drop 24).take 24).all (fun c => isCode c || c.before args0 about1) = true := by decide +kernel
set_option maxRecDepth 65536 in
theorem w_t5 : ((((words1.drop 24).drop 24).drop 24).drop 24).all (fun c => isCode c || c.before args0 about1) = true := by decide +kernel
theorem w_tables : (allAtoms (Jvm.Cond.code x code maxLocals ret :: tables_1)).before args0 about1 = true := by
  rw [allAtoms_all]
  show words1.all (fun c => c.before args0 about1) = true
  refine all_split ?_ w_codes
  rw [← List.take_append_drop 24 words1, List.all_append, w_t1, ← List.take_append_drop 24 (words1.drop 24), List.all_append, w_t2, ← List.take_append_drop 24 ((words1.drop 24).drop 24), List.all_append, w_t3, ← List.take_append_drop 24 (((words1.drop 24).drop 24).drop 24), List.all_append, w_t4, w_t5]
  rfl
set_option maxRecDepth 65536 in
theorem w_case : (Jvm.Cond.and given_1 narrow_1).before args0 about1 = true := by decide +kernel
theorem w_applies : (headSpec (Jvm.Cond.code x code maxLocals ret :: tables_1) room_1).applies x e0.platform about1 = true :=
  (Spec.applies_iff w_frames).mpr ⟨w_running, w_runnable, w_alone, w_named, w_hears, w_ripe, w_room, w_tables⟩
theorem atStart : AtStart classFile x code maxLocals ret World_1 tables_1 room_1 Calls_1 rest_1 Pre_1 launch0 p0 e0 about1 theMethod args0 below0 :=
  ⟨lists_1, trivial, launch0.admits_env _ _ _, launch0.least_env, fairChoices_fair.cas, fairChoices_fair.clock, w_frames, w_args, w_heap, w_applies, trivial, trivial, w_case⟩
end start1
theorem witness_1 : WitnessClaimed_1 := ⟨start1.p0, start1.e0, start1.about1, start1.theMethod, start1.args0, start1.below0, start1.atStart⟩
end Jvm.Pilot.@@N@@
