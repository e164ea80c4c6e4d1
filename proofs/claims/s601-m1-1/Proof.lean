import JvmDerived
import JvmDerived.Pilot.@@N@@Statement
import JvmDerived.Pilot.@@N@@Code
set_option linter.unusedVariables false
set_option linter.unusedSimpArgs false
namespace Jvm.RoadKit
open Sem ClassFile Op Lib Jvm.Stand Jvm.Free Jvm.LawKit
section New
variable {p : Program} {l : Launch} {e : Env} {R : Room} {s : State} {m : MethodId} {args : Array Value} {below : List Frame} {meth : Method} {c : Code} {T : State} {locs : List Loc} {cells slots : Nat}
theorem retI (X : Stand p l e R s m args below meth c T locs cells slots) (hx : p.tables.exec = Jvm.exec) {pc : Nat} {Ls : Array Slot} {z : Int32} {rest : List Value} (hret : meth.sig.returnType = some .int) (hd : decode c.code pc = .ok (.ireturn, 1)) {fs : List Frame}
    (hl : ∀ (f : JFrame) (acts : List Action), f.method = m → f.locked = none → f.entered = [] → (doReturn e (T.setTop f) acts (some (.int z))).1 = T.setFrames fs) : Steps p.tables e below (T.setTop (mkF m pc Ls (.int z :: rest))) (T.setFrames fs) := by
  have hm' : T.vm.method? m = some meth := X.method'
  have hn : narrow .int (.int z) = .int z := rfl
  show Steps p.tables e below (T.setTop { method := m, pc := pc, locals := Ls, stack := _ :: rest, locked := none }) _
  jvm_step X.here [X.here.top, hx, hd, hm', hret, hn]
  first | (intro acts; rw [hl _ acts rfl rfl rfl]) | rw [hl _ _ rfl rfl rfl]
  exact Steps.refl _
end New
end Jvm.RoadKit
namespace Jvm.Pilot.@@N@@
open Jvm Jvm.ClassFile Sem Op Lib Jvm.Free Jvm.Stand Jvm.LawKit Jvm.RoadKit Bundle Jvm.Pilot.@@N@@.Jvm.D
theorem own_n0 {Z : State} {n0 : Nat} {h : Heap} (O : Old Z n0 h) : n0 ≤ h.size := O.1 ▸ O.2.1
theorem own_born {Z : State} {n0 : Nat} {h : Heap} {b : Addr} (O : Old Z n0 h) (q : h.size ≤ b) : n0 ≤ b := Nat.le_trans (own_n0 O) q
theorem own_eqle {b : Addr} {n : Nat} (q : b = n) : n ≤ b := Nat.le_of_eq q.symm
theorem own_ltn {a b : Addr} {n : Nat} (h : a < n) (q : n ≤ b) : a ≠ b := Nat.ne_of_lt (Nat.lt_of_lt_of_le h q)
theorem own_oldlt {Z : State} {n0 : Nat} {h : Heap} {a : Addr} (O : Old Z n0 h) (q : a < Z.heap.size) : a < h.size := Nat.lt_of_lt_of_le q O.2.1
theorem own_eqint {args : Array Value} {first s : State} {o : Option Outcome} {idx : List Nat} {a : Term} {n : Int32} (h : (Jvm.Cond.eq a (Term.int n)).value args first o s idx = some true) : a.eval args first o idx s = some (.int n) := by
  obtain ⟨x, y, h1, h2, k1, k2⟩ := cmp_v (Or.inl h)
  have h2' : y = .int n := (Option.some.inj (h2.symm.trans (Term.int_eval n)))
  subst h2'
  obtain ⟨z, rfl⟩ := k2
  rw [h1]
  have q := h
  simp only [Jvm.Cond.value, h1, Term.int_eval] at q
  simpa using q

theorem own_and3 (x : Int32) : x &&& 3 = 0 ∨ x &&& 3 = 1 ∨ x &&& 3 = 2 ∨ x &&& 3 = 3 := by
  have h := c_mask x 3 2 (by decide) (by decide)
  have h2 : (x &&& 3).toInt = 0 ∨ (x &&& 3).toInt = 1 ∨ (x &&& 3).toInt = 2 ∨ (x &&& 3).toInt = 3 := by
    have h3 : (x &&& 3).toInt = x.toInt % 4 := h
    omega
  rcases h2 with h2 | h2 | h2 | h2
  · exact Or.inl (Int32.toInt_inj.mp (h2.trans (by decide)))
  · exact Or.inr (Or.inl (Int32.toInt_inj.mp (h2.trans (by decide))))
  · exact Or.inr (Or.inr (Or.inl (Int32.toInt_inj.mp (h2.trans (by decide)))))
  · exact Or.inr (Or.inr (Or.inr (Int32.toInt_inj.mp (h2.trans (by decide)))))

theorem own_NSroot {Z : State} {a0 : Array Value} {O K : String} {n : Nat} (w : (Jvm.Cond.noSuperclass O).before a0 Z = true) (wk : (Jvm.Cond.instantiable K n).before a0 Z = true) (hn : O ≠ K) : NS Z O K := by
  obtain ⟨c, k, h1, h2, h3, -, -⟩ := Cond.noSuperclass_spec w
  obtain ⟨t, -, g1, -⟩ := Cond.instantiable_spec wk
  have ne := ids_ne h1 g1 hn
  refine ⟨c, t, h1, g1, fun fuel => ?_⟩
  cases fuel with
  | zero => rfl
  | succ f => simp [Vm.isSubclassAux, ne, h2, h3]
theorem own_NSno {Z : State} {a0 : Array Value} {C S K : String} {n : Nat} (w : (Jvm.Cond.superclass C S).before a0 Z = true) (wk : (Jvm.Cond.instantiable K n).before a0 Z = true) (m : NS Z C K) (hn : C ≠ K) : ∃ c t, Z.vm.findClass C = some c ∧ Z.vm.findClass K = some t ∧ Z.vm.assignable c t = false := by
  obtain ⟨c, t, h0, g0, n3⟩ := m
  obtain ⟨p, k, kp, h1, h2, h3, h4, h5, -, h7⟩ := Cond.superclass_spec h0 w
  obtain ⟨q, k', g1, g2, g5, g6, -⟩ := Cond.instantiable_spec wk
  cases g0.symm.trans g1
  have ne := ids_ne h0 g0 hn
  have g7 : k'.isInterface = false := by
    cases hk : k'.isInterface with
    | false => rfl
    | true => rw [hk] at g6; simp at g6
  refine ⟨c, t, h0, g0, ?_⟩
  show Z.vm.assignableAux (255 + 1) c t = false
  simp [Vm.assignableAux, ne, h2, g2, h5, g5, g7, Vm.isSubclass, n3]

theorem own_boxJ (q : Int64) (h1 : ¬ (lcmpW q (-128 : Int64)) < (0 : Int32)) (h2 : ¬ (0 : Int32) < (lcmpW q (127 : Int64))) : ¬ ((q.toInt32) + (128 : Int32)) < (0 : Int32) ∧ ((q.toInt32) + (128 : Int32)) < (256 : Int32) := by
  rw [lw_lt, Int64.lt_iff_toInt_lt] at h1
  rw [lw_gt, Int64.lt_iff_toInt_lt] at h2
  have e1 : (-128 : Int64).toInt = -128 := by decide
  have e2 : (127 : Int64).toInt = 127 := by decide
  have e3 : (128 : Int32).toInt = 128 := by decide
  have e4 : (256 : Int32).toInt = 256 := by decide
  have e5 : (0 : Int32).toInt = 0 := by decide
  have a := c_l2i q
  have b := c_iadd q.toInt32 128
  have r1 := rng32 q.toInt32
  have r2 := rng32 (q.toInt32 + 128)
  rw [Int32.lt_iff_toInt_lt, Int32.lt_iff_toInt_lt]
  omega
theorem own_size {s : State} {args : Array Value} {t : Term} {a : Addr} {c : Cell} {ty : FieldType} {n : Int32} (ev : t.eval args s none [] s = some (.ref a)) (A : Arr s s.heap a c ty) (w : (Jvm.Cond.eq (Term.length t) (Term.int n)).value args s none s [] = some true) : c.slots.size < 2 ^ 31 ∧ c.slots.size.toInt32 = n := by
  have hl := own_eqint w
  have hf := A.fin (Vm.Alike.refl _)
  constructor
  · by_cases h : c.slots.size < 2 ^ 31
    · exact h
    · simp [Term.eval, ev, hf, h] at hl
  · obtain ⟨a', cell, e1, e2, e3⟩ := Term.length_spec hl
    cases ev.symm.trans e1
    cases hf.symm.trans e2
    exact (Value.int.inj e3).symm
theorem own_boxI (q : Int32) (h1 : ¬ q < (-128 : Int32)) (h2 : ¬ (127 : Int32) < q) : ¬ (q + (128 : Int32)) < (0 : Int32) ∧ (q + (128 : Int32)) < (256 : Int32) := by
  rw [Int32.lt_iff_toInt_lt] at h1 h2
  have e1 : (-128 : Int32).toInt = -128 := by decide
  have e2 : (127 : Int32).toInt = 127 := by decide
  have e3 : (128 : Int32).toInt = 128 := by decide
  have e4 : (256 : Int32).toInt = 256 := by decide
  have e5 : (0 : Int32).toInt = 0 := by decide
  have b := c_iadd q 128
  have r1 := rng32 q
  have r2 := rng32 (q + 128)
  rw [Int32.lt_iff_toInt_lt, Int32.lt_iff_toInt_lt]
  omega

theorem d1_0 : decode prog_87_method_1_code 0 = .ok (.aload_n 0, 1) := by decide +kernel
theorem d1_1 : decode prog_87_method_1_code 1 = .ok (.invokespecial 1, 3) := by decide +kernel
theorem d2_0 : decode prog_123_method_1_code 0 = .ok (.aload_n 0, 1) := by decide +kernel
theorem d2_1 : decode prog_123_method_1_code 1 = .ok (.invokespecial 1, 3) := by decide +kernel
theorem d3_0 : decode prog_122_method_1_code 0 = .ok (.aload_n 0, 1) := by decide +kernel
theorem d3_1 : decode prog_122_method_1_code 1 = .ok (.invokespecial 1, 3) := by decide +kernel
theorem d3_4 : decode prog_122_method_1_code 4 = .ok (.return_, 1) := by decide +kernel
theorem ef_3_R (m : MethodId) (x0 : Addr) : entryFrame m #[(.ref x0)] 1 = mkF m 0 #[.val (.ref x0)] [] := by first | (simp [entryFrame, mkF, argsToLocals, Value.category]; done) | rfl
theorem pn_0 : plainName "com/example/drowsy_thunk/drowsythunk/eval/Thunk" = true := by first | (simp [plainName, overriddenIn]; done) | decide +kernel
def Qrm3 (Z : State) (a1 : Addr) (h0 : Heap) (n0 : Nat) (v : Option Value) (h : Heap) (L : List Loc) : Prop := v = none ∧ Fr n0 L ∧ h = h0
set_option maxRecDepth 65536 in
set_option maxHeartbeats 40000000 in
theorem rm3 (l : Launch) (Z : State) (a0 : Array Value) (hw : ∀ d ∈ tables_1, d.before a0 Z = true) (ws : List Jvm.Cond) (a1 : Addr) (h0 : Heap) (n0 : Nat) (O0 : Old Z n0 h0) :
    MetFree l (⟨"com/example/drowsy_thunk/drowsythunk/eval/Thunk", "<init>", "()V"⟩ : MethodName) (head1 (Jvm.Cond.code (⟨"com/example/drowsy_thunk/drowsythunk/eval/Thunk", "<init>", "()V"⟩ : MethodName) prog_122_method_1_code 1 none :: ws) ({ frames := 1, cells := 0, slots := 0, locals := 12 } : Room)) (fun a U => a = #[(.ref a1)] ∧ Z.Warmed39 U.vm ∧ U.heap = h0) (fun _ _ _ _ _ => True) (fun _ U o U' => ∃ v L, o = .returned v ∧ Qrm3 Z a1 h0 n0 v U'.heap L ∧ FrameEnd U o U' L ({ frames := 1, cells := 0, slots := 0, locals := 12 } : Room).cells ({ frames := 1, cells := 0, slots := 0, locals := 12 } : Room).slots) := by
  refine MetFree.of_bodySF (plainFor_of_name pn_0) hisR ?_
  intro p e s m args below meth c s₁ Bd hml0 hP hK
  obtain ⟨rfl, hZ, hh⟩ := hP
  have hx := Bd.exec
  have hby := Bd.bytes
  have hml : c.maxLocals = 1 := hml0
  have hown : s.vm.findClass "com/example/drowsy_thunk/drowsythunk/eval/Thunk" = some m.cls := findClass_of_methodNamed Bd.named
  have hnm := (name_of_methodNamed Bd.named Bd.method).1
  have X0 : Stand p l e ({ frames := 1, cells := 0, slots := 0, locals := 12 } : Room) s m #[(.ref a1)] below meth c s₁ [] 0 0 := Stand.of_body Bd
  have e0 : s₁.heap = h0 := by rw [← hh, Bd.state]; rfl
  have N0 := Fr.nil n0
  have pre0 : ∀ t, Steps p.tables e below (s₁.setTop (mkF m 0 #[.val (.ref a1)] [])) t → Steps p.tables e below (s₁.setTop (entryFrame m #[(.ref a1)] 1)) t := fun t k => castTop (ef_3_R m a1) k
  obtain ⟨T2, X2, e2, st2⟩ := initO X0 hx hZ hown (hw _ (List.mem_of_getElem? (i := 16) rfl)) (hw _ (List.mem_of_getElem? (i := 17) rfl)) (hw _ (List.mem_of_getElem? (i := 18) rfl)) e0 (g := (mkF m 1 #[.val (.ref a1)] [(.ref a1)])) rfl (by rw [hml]; rfl) rfl (hb hby d3_1) (by decide) (W := 0) (by show 2 * 0 + _ ≤ _; exact Nat.le_of_eq rfl) (by decide)
  obtain ⟨fs, hr, hrun, hended, hW, hsame⟩ := X2.leave (v := none) (fun _ => rfl)
  refine ⟨_, _, pre0 _ ?_, hrun, hended, _, _, rfl, ?_, ⟨_, rfl⟩, hW, hsame.mono (by decide) (by decide)⟩
  · show Steps p.tables e below (s₁.setTop (mkF m 0 #[.val (.ref a1)] [])) _
    refine XS.aloadN X0.here hx rfl (hb hby d3_0) rfl rfl ?_
    show Steps p.tables e below (s₁.setTop (mkF m 1 #[.val (.ref a1)] [(.ref a1)])) _
    refine st2 _ ?_
    show Steps p.tables e below (T2.setTop (mkF m 4 #[.val (.ref a1)] [])) _
    exact X2.returnOut hx Bd.returns (hb hby d3_4) hr
  · show Qrm3 Z a1 h0 n0 _ T2.heap _
    rw [e2]
    exact ⟨rfl, N0, rfl⟩
theorem pd_1 : parseMethodDescriptor "()V" = some ⟨[], none⟩ := by decide +kernel
theorem d2_4 : decode prog_123_method_1_code 4 = .ok (.return_, 1) := by decide +kernel
theorem ef_2_R (m : MethodId) (x0 : Addr) : entryFrame m #[(.ref x0)] 1 = mkF m 0 #[.val (.ref x0)] [] := by first | (simp [entryFrame, mkF, argsToLocals, Value.category]; done) | rfl
theorem pn_2 : plainName "com/example/drowsy_thunk/drowsythunk/eval/Value" = true := by first | (simp [plainName, overriddenIn]; done) | decide +kernel
def Qrm2 (Z : State) (a1 : Addr) (h0 : Heap) (n0 : Nat) (v : Option Value) (h : Heap) (L : List Loc) : Prop := v = none ∧ Fr n0 L ∧ h = h0
set_option maxRecDepth 65536 in
set_option maxHeartbeats 40000000 in
theorem rm2 (l : Launch) (Z : State) (a0 : Array Value) (hw : ∀ d ∈ tables_1, d.before a0 Z = true) (ws : List Jvm.Cond) (a1 : Addr) (h0 : Heap) (n0 : Nat) (O0 : Old Z n0 h0) :
    MetFree l (⟨"com/example/drowsy_thunk/drowsythunk/eval/Value", "<init>", "()V"⟩ : MethodName) (head1 (Jvm.Cond.code (⟨"com/example/drowsy_thunk/drowsythunk/eval/Value", "<init>", "()V"⟩ : MethodName) prog_123_method_1_code 1 none :: ws) ({ frames := 2, cells := 0, slots := 0, locals := 24 } : Room)) (fun a U => a = #[(.ref a1)] ∧ Z.Warmed39 U.vm ∧ U.heap = h0) (fun _ _ _ _ _ => True) (fun _ U o U' => ∃ v L, o = .returned v ∧ Qrm2 Z a1 h0 n0 v U'.heap L ∧ FrameEnd U o U' L ({ frames := 2, cells := 0, slots := 0, locals := 24 } : Room).cells ({ frames := 2, cells := 0, slots := 0, locals := 24 } : Room).slots) := by
  refine MetFree.of_bodySF (plainFor_of_name pn_2) hisR ?_
  intro p e s m args below meth c s₁ Bd hml0 hP hK
  obtain ⟨rfl, hZ, hh⟩ := hP
  have hx := Bd.exec
  have hby := Bd.bytes
  have hml : c.maxLocals = 1 := hml0
  have hown : s.vm.findClass "com/example/drowsy_thunk/drowsythunk/eval/Value" = some m.cls := findClass_of_methodNamed Bd.named
  have hnm := (name_of_methodNamed Bd.named Bd.method).1
  have X0 : Stand p l e ({ frames := 2, cells := 0, slots := 0, locals := 24 } : Room) s m #[(.ref a1)] below meth c s₁ [] 0 0 := Stand.of_body Bd
  have e0 : s₁.heap = h0 := by rw [← hh, Bd.state]; rfl
  have N0 := Fr.nil n0
  have pre0 : ∀ t, Steps p.tables e below (s₁.setTop (mkF m 0 #[.val (.ref a1)] [])) t → Steps p.tables e below (s₁.setTop (entryFrame m #[(.ref a1)] 1)) t := fun t k => castTop (ef_2_R m a1) k
  obtain ⟨_, _, ⟨T2, L2, k2, n2⟩, -, X2, ⟨Lc2, hQ2, l2, y2, z2⟩, st2⟩ := X0.specialBack hx (y := (⟨"com/example/drowsy_thunk/drowsythunk/eval/Thunk", "<init>", "()V"⟩ : MethodName)) rfl hown (mvT hZ (hw _ (List.mem_of_getElem? (i := 11) rfl))) (mvT hZ (hw _ (List.mem_of_getElem? (i := 12) rfl))) (mvT hZ (hw _ (List.mem_of_getElem? (i := 15) rfl))) (by decide) (backOf (W := 0) (rm3 l Z a0 hw [] a1 h0 n0 O0 ) hZ (hw _ (List.mem_of_getElem? (i := 15) rfl)) (hw _ (List.mem_of_getElem? (i := 14) rfl)) (by decide) (by decide)) (g := (mkF m 1 #[.val (.ref a1)] [(.ref a1)])) rfl (by rw [hml]; rfl) (Steps.refl _) (a := a1) (argsL := []) (rest := []) (lenOf pd_1 rfl) rfl (by show 2 * 0 + _ ≤ _; exact Nat.le_of_eq rfl) (hb hby d2_1) (fun _ _ => ⟨rfl, e0, (by decide : 0 + 0 ≤ _), (by decide : 0 + 0 ≤ _)⟩)
  dsimp only [Pt.U, Pt.locs, Pt.cells, Pt.slots] at X2 l2 y2 z2 st2 hQ2
  subst l2 y2 z2
  obtain ⟨rfl, Nq2, e2⟩ := hQ2
  have N2 := Fr.app N0 Nq2
  obtain ⟨fs, hr, hrun, hended, hW, hsame⟩ := X2.leave (v := none) (fun _ => rfl)
  refine ⟨_, _, pre0 _ ?_, hrun, hended, _, _, rfl, ?_, ⟨_, rfl⟩, hW, hsame.mono (by decide) (by decide)⟩
  · show Steps p.tables e below (s₁.setTop (mkF m 0 #[.val (.ref a1)] [])) _
    refine XS.aloadN X0.here hx rfl (hb hby d2_0) rfl rfl ?_
    show Steps p.tables e below (s₁.setTop (mkF m 1 #[.val (.ref a1)] [(.ref a1)])) _
    refine st2.trans ?_
    show Steps p.tables e below (T2.setTop (mkF m 4 #[.val (.ref a1)] [])) _
    exact X2.returnOut hx Bd.returns (hb hby d2_4) hr
  · show Qrm2 Z a1 h0 n0 _ T2.heap _
    rw [e2]
    exact ⟨rfl, N2, rfl⟩
theorem d1_4 : decode prog_87_method_1_code 4 = .ok (.aload_n 0, 1) := by decide +kernel
theorem d1_5 : decode prog_87_method_1_code 5 = .ok (.lload_n 1, 1) := by decide +kernel
theorem d1_6 : decode prog_87_method_1_code 6 = .ok (.putfield 7, 3) := by decide +kernel
theorem d1_9 : decode prog_87_method_1_code 9 = .ok (.return_, 1) := by decide +kernel
theorem ef_1_RJ (m : MethodId) (x0 : Addr) (x1 : Int64) : entryFrame m #[(.ref x0), (.long x1)] 3 = mkF m 0 #[.val (.ref x0), .val (.long x1), .second] [] := by first | (simp [entryFrame, mkF, argsToLocals, Value.category]; done) | rfl
theorem pn_3 : plainName "com/example/drowsy_thunk/drowsythunk/eval/IntValue" = true := by first | (simp [plainName, overriddenIn]; done) | decide +kernel
def Qrm1 (Z : State) (a1 : Addr) (q2 : Int64) (h0 : Heap) (n0 : Nat) (v : Option Value) (h : Heap) (L : List Loc) : Prop := v = none ∧ Fr n0 L ∧ Keep h0 h [a1] ∧ Exa Z h a1 "com/example/drowsy_thunk/drowsythunk/eval/IntValue" ∧ Fld Z h a1 "com/example/drowsy_thunk/drowsythunk/eval/IntValue" "value" "J" (.long q2)
set_option maxRecDepth 65536 in
set_option maxHeartbeats 40000000 in
theorem rm1 (l : Launch) (Z : State) (a0 : Array Value) (hw : ∀ d ∈ tables_1, d.before a0 Z = true) (ws : List Jvm.Cond) (a1 : Addr) (q2 : Int64) (h0 : Heap) (n0 : Nat) (O0 : Old Z n0 h0) (E_4 : Exa Z h0 a1 "com/example/drowsy_thunk/drowsythunk/eval/IntValue") (F_5 : Fld Z h0 a1 "com/example/drowsy_thunk/drowsythunk/eval/IntValue" "value" "J" (.long (0 : Int64))) (g_a1 : n0 ≤ a1) :
    MetFree l (⟨"com/example/drowsy_thunk/drowsythunk/eval/IntValue", "<init>", "(J)V"⟩ : MethodName) (head1 (Jvm.Cond.code (⟨"com/example/drowsy_thunk/drowsythunk/eval/IntValue", "<init>", "(J)V"⟩ : MethodName) prog_87_method_1_code 3 none :: ws) ({ frames := 3, cells := 0, slots := 0, locals := 36 } : Room)) (fun a U => a = #[(.ref a1), (.long q2)] ∧ Z.Warmed39 U.vm ∧ U.heap = h0) (fun _ _ _ _ _ => True) (fun _ U o U' => ∃ v L, o = .returned v ∧ Qrm1 Z a1 q2 h0 n0 v U'.heap L ∧ FrameEnd U o U' L ({ frames := 3, cells := 0, slots := 0, locals := 36 } : Room).cells ({ frames := 3, cells := 0, slots := 0, locals := 36 } : Room).slots) := by
  refine MetFree.of_bodySF (plainFor_of_name pn_3) hisR ?_
  intro p e s m args below meth c s₁ Bd hml0 hP hK
  obtain ⟨rfl, hZ, hh⟩ := hP
  have hx := Bd.exec
  have hby := Bd.bytes
  have hml : c.maxLocals = 3 := hml0
  have hown : s.vm.findClass "com/example/drowsy_thunk/drowsythunk/eval/IntValue" = some m.cls := findClass_of_methodNamed Bd.named
  have hnm := (name_of_methodNamed Bd.named Bd.method).1
  have X0 : Stand p l e ({ frames := 3, cells := 0, slots := 0, locals := 36 } : Room) s m #[(.ref a1), (.long q2)] below meth c s₁ [] 0 0 := Stand.of_body Bd
  have e0 : s₁.heap = h0 := by rw [← hh, Bd.state]; rfl
  have N0 := Fr.nil n0
  have pre0 : ∀ t, Steps p.tables e below (s₁.setTop (mkF m 0 #[.val (.ref a1), .val (.long q2), .second] [])) t → Steps p.tables e below (s₁.setTop (entryFrame m #[(.ref a1), (.long q2)] 3)) t := fun t k => castTop (ef_1_RJ m a1 q2) k
  obtain ⟨_, _, ⟨T3, L3, k3, n3⟩, -, X3, ⟨Lc3, hQ3, l3, y3, z3⟩, st3⟩ := X0.specialBack hx (y := (⟨"com/example/drowsy_thunk/drowsythunk/eval/Value", "<init>", "()V"⟩ : MethodName)) rfl hown (mvT hZ (hw _ (List.mem_of_getElem? (i := 6) rfl))) (mvT hZ (hw _ (List.mem_of_getElem? (i := 7) rfl))) (mvT hZ (hw _ (List.mem_of_getElem? (i := 10) rfl))) (by decide) (backOf (W := 0) (rm2 l Z a0 hw [] a1 h0 n0 O0 ) hZ (hw _ (List.mem_of_getElem? (i := 10) rfl)) (hw _ (List.mem_of_getElem? (i := 9) rfl)) (by decide) (by decide)) (g := (mkF m 1 #[.val (.ref a1), .val (.long q2), .second] [(.ref a1)])) rfl (by rw [hml]; rfl) (Steps.refl _) (a := a1) (argsL := []) (rest := []) (lenOf pd_1 rfl) rfl (by show 2 * 0 + _ ≤ _; exact Nat.le_of_eq rfl) (hb hby d1_1) (fun _ _ => ⟨rfl, e0, (by decide : 0 + 0 ≤ _), (by decide : 0 + 0 ≤ _)⟩)
  dsimp only [Pt.U, Pt.locs, Pt.cells, Pt.slots] at X3 l3 y3 z3 st3 hQ3
  subst l3 y3 z3
  obtain ⟨rfl, Nq3, e3⟩ := hQ3
  have N3 := Fr.app N0 Nq3
  obtain ⟨T6, h6, X6, e6, W6, st6⟩ := putF X3 hx hZ hown (host := "") (Or.inl (hw _ (List.mem_of_getElem? (i := 19) rfl))) Via.refl e3 F_5 E_4 (Or.inr ⟨(hw _ (List.mem_of_getElem? (i := 20) rfl)), rfl, hnm⟩) (hw _ (List.mem_of_getElem? (i := 1) rfl)) (ty := .long) (by decide) rfl rfl (g := (mkF m 6 #[.val (.ref a1), .val (.long q2), .second] [(.long q2), (.ref a1)])) rfl rfl (hb hby d1_6)
  have K6 : Keep h0 h6 [a1] := (Keep.refl h0 [a1]).wr W6 (Or.inl (List.mem_of_getElem? (i := 0) rfl))
  have O6 : Old Z n0 h6 := O0.wr W6 g_a1
  have N6 := Fr.snoc X6 N3 g_a1
  have Fw6 : Fld Z h6 a1 "com/example/drowsy_thunk/drowsythunk/eval/IntValue" "value" "J" (.long q2) := F_5.same W6
  have f7 : Exa Z h6 a1 "com/example/drowsy_thunk/drowsythunk/eval/IntValue" := (E_4.wr W6)
  obtain ⟨fs, hr, hrun, hended, hW, hsame⟩ := X6.leave (v := none) (fun _ => rfl)
  refine ⟨_, _, pre0 _ ?_, hrun, hended, _, _, rfl, ?_, ⟨_, rfl⟩, hW, hsame.mono (by decide) (by decide)⟩
  · show Steps p.tables e below (s₁.setTop (mkF m 0 #[.val (.ref a1), .val (.long q2), .second] [])) _
    refine XS.aloadN X0.here hx rfl (hb hby d1_0) rfl rfl ?_
    show Steps p.tables e below (s₁.setTop (mkF m 1 #[.val (.ref a1), .val (.long q2), .second] [(.ref a1)])) _
    refine st3.trans ?_
    show Steps p.tables e below (T3.setTop (mkF m 4 #[.val (.ref a1), .val (.long q2), .second] [])) _
    refine XS.aloadN X3.here hx rfl (hb hby d1_4) rfl rfl ?_
    show Steps p.tables e below (T3.setTop (mkF m 5 #[.val (.ref a1), .val (.long q2), .second] [(.ref a1)])) _
    refine XS.lloadN X3.here hx rfl (hb hby d1_5) rfl ?_
    show Steps p.tables e below (T3.setTop (mkF m 6 #[.val (.ref a1), .val (.long q2), .second] [(.long q2), (.ref a1)])) _
    refine st6 _ ?_
    show Steps p.tables e below (T6.setTop (mkF m 9 #[.val (.ref a1), .val (.long q2), .second] [])) _
    exact X6.returnOut hx Bd.returns (hb hby d1_9) hr
  · show Qrm1 Z a1 q2 h0 n0 _ T6.heap _
    rw [e6]
    exact ⟨rfl, N6, K6, f7, Fw6⟩
theorem pd_4 : parseMethodDescriptor "(J)V" = some ⟨[.long], none⟩ := by decide +kernel
theorem d5_0 : decode prog_87_method_4_code 0 = .ok (.aload_n 1, 1) := by decide +kernel
theorem d5_1 : decode prog_87_method_4_code 1 = .ok (.instanceof 8, 3) := by decide +kernel
theorem d5_4 : decode prog_87_method_4_code 4 = .ok (.ifCond .eq 24, 3) := by decide +kernel
theorem d5_7 : decode prog_87_method_4_code 7 = .ok (.aload_n 1, 1) := by decide +kernel
theorem d5_8 : decode prog_87_method_4_code 8 = .ok (.checkcast 8, 3) := by decide +kernel
theorem d5_11 : decode prog_87_method_4_code 11 = .ok (.astore_n 2, 1) := by decide +kernel
theorem d5_12 : decode prog_87_method_4_code 12 = .ok (.aload_n 0, 1) := by decide +kernel
theorem d5_13 : decode prog_87_method_4_code 13 = .ok (.getfield 7, 3) := by decide +kernel
theorem d5_16 : decode prog_87_method_4_code 16 = .ok (.aload_n 2, 1) := by decide +kernel
theorem d5_17 : decode prog_87_method_4_code 17 = .ok (.getfield 7, 3) := by decide +kernel
theorem d5_20 : decode prog_87_method_4_code 20 = .ok (.lcmp, 1) := by decide +kernel
theorem d5_21 : decode prog_87_method_4_code 21 = .ok (.ifCond .ne 7, 3) := by decide +kernel
theorem d5_24 : decode prog_87_method_4_code 24 = .ok (.iconst 1, 1) := by decide +kernel
theorem d5_25 : decode prog_87_method_4_code 25 = .ok (.goto 4, 3) := by decide +kernel
theorem d5_29 : decode prog_87_method_4_code 29 = .ok (.ireturn, 1) := by decide +kernel
theorem ef_5_RR (m : MethodId) (x0 : Addr) (x1 : Addr) : entryFrame m #[(.ref x0), (.ref x1)] 3 = mkF m 0 #[.val (.ref x0), .val (.ref x1), .unset] [] := by first | (simp [entryFrame, mkF, argsToLocals, Value.category]; done) | rfl
def Qrm5 (Z : State) (a1 : Addr) (a2 : Addr) (q6 : Int64) (q9 : Int64) (h0 : Heap) (n0 : Nat) (v : Option Value) (h : Heap) (L : List Loc) : Prop := v = some (.int (1 : Int32)) ∧ Fr n0 L ∧ h = h0
set_option maxRecDepth 65536 in
set_option maxHeartbeats 40000000 in
theorem rm5 (l : Launch) (Z : State) (a0 : Array Value) (hw : ∀ d ∈ tables_1, d.before a0 Z = true) (ws : List Jvm.Cond) (a1 : Addr) (a2 : Addr) (q6 : Int64) (q9 : Int64) (h0 : Heap) (n0 : Nat) (O0 : Old Z n0 h0) (E_3 : Exa Z h0 a2 "com/example/drowsy_thunk/drowsythunk/eval/IntValue") (F_7 : Fld Z h0 a1 "com/example/drowsy_thunk/drowsythunk/eval/IntValue" "value" "J" (.long q6)) (F_10 : Fld Z h0 a2 "com/example/drowsy_thunk/drowsythunk/eval/IntValue" "value" "J" (.long q9)) (hc12 : (lcmpW q6 q9) = (0 : Int32)) :
    MetFree l (⟨"com/example/drowsy_thunk/drowsythunk/eval/IntValue", "equals", "(Ljava/lang/Object;)Z"⟩ : MethodName) (head1 (Jvm.Cond.code (⟨"com/example/drowsy_thunk/drowsythunk/eval/IntValue", "equals", "(Ljava/lang/Object;)Z"⟩ : MethodName) prog_87_method_4_code 3 (some .boolean) :: ws) ({ frames := 0, cells := 0, slots := 0, locals := 0 } : Room)) (fun a U => a = #[(.ref a1), (.ref a2)] ∧ Z.Warmed39 U.vm ∧ U.heap = h0) (fun _ _ _ _ _ => True) (fun _ U o U' => ∃ v L, o = .returned v ∧ Qrm5 Z a1 a2 q6 q9 h0 n0 v U'.heap L ∧ FrameEnd U o U' L ({ frames := 0, cells := 0, slots := 0, locals := 0 } : Room).cells ({ frames := 0, cells := 0, slots := 0, locals := 0 } : Room).slots) := by
  refine MetFree.of_bodySF (plainFor_of_name pn_3) hisR ?_
  intro p e s m args below meth c s₁ Bd hml0 hP hK
  obtain ⟨rfl, hZ, hh⟩ := hP
  have hx := Bd.exec
  have hby := Bd.bytes
  have hml : c.maxLocals = 3 := hml0
  have hown : s.vm.findClass "com/example/drowsy_thunk/drowsythunk/eval/IntValue" = some m.cls := findClass_of_methodNamed Bd.named
  have hnm := (name_of_methodNamed Bd.named Bd.method).1
  have X0 : Stand p l e ({ frames := 0, cells := 0, slots := 0, locals := 0 } : Room) s m #[(.ref a1), (.ref a2)] below meth c s₁ [] 0 0 := Stand.of_body Bd
  have e0 : s₁.heap = h0 := by rw [← hh, Bd.state]; rfl
  have N0 := Fr.nil n0
  have pre0 : ∀ t, Steps p.tables e below (s₁.setTop (mkF m 0 #[.val (.ref a1), .val (.ref a2), .unset] [])) t → Steps p.tables e below (s₁.setTop (entryFrame m #[(.ref a1), (.ref a2)] 3)) t := fun t k => castTop (ef_5_RR m a1 a2) k
  obtain ⟨T4, X4, e4, st4⟩ := instY X0 hx hZ hown (hw _ (List.mem_of_getElem? (i := 26) rfl)) e0 (Ins.self E_3) (g := (mkF m 1 #[.val (.ref a1), .val (.ref a2), .unset] [(.ref a2)])) rfl rfl (hb hby d5_1)
  obtain ⟨T5, X5, e5, st5⟩ := castY X4 hx hZ hown (hw _ (List.mem_of_getElem? (i := 26) rfl)) e4 (Ins.self E_3) (g := (mkF m 8 #[.val (.ref a1), .val (.ref a2), .unset] [(.ref a2)])) rfl rfl (hb hby d5_8)
  obtain ⟨T8, X8, e8, st8⟩ := getF X5 hx hZ hown (host := "") (Or.inl (hw _ (List.mem_of_getElem? (i := 19) rfl))) Via.refl e5 F_7 (g := (mkF m 13 #[.val (.ref a1), .val (.ref a2), .val (.ref a2)] [(.ref a1)])) rfl rfl (hb hby d5_13)
  obtain ⟨T11, X11, e11, st11⟩ := getF X8 hx hZ hown (host := "") (Or.inl (hw _ (List.mem_of_getElem? (i := 19) rfl))) Via.refl e8 F_10 (g := (mkF m 17 #[.val (.ref a1), .val (.ref a2), .val (.ref a2)] [(.ref a2), (.long q6)])) rfl rfl (hb hby d5_17)
  obtain ⟨fs, hr, hrun, hended, hW, hsame⟩ := X11.leave (v := some (.int (1 : Int32))) (fun h => by rw [Bd.returns] at h; cases h)
  refine ⟨_, _, pre0 _ ?_, hrun, hended, _, _, rfl, ?_, ⟨_, rfl⟩, hW, hsame.mono (by decide) (by decide)⟩
  · show Steps p.tables e below (s₁.setTop (mkF m 0 #[.val (.ref a1), .val (.ref a2), .unset] [])) _
    refine XS.aloadN X0.here hx rfl (hb hby d5_0) rfl rfl ?_
    show Steps p.tables e below (s₁.setTop (mkF m 1 #[.val (.ref a1), .val (.ref a2), .unset] [(.ref a2)])) _
    refine st4 _ ?_
    show Steps p.tables e below (T4.setTop (mkF m 4 #[.val (.ref a1), .val (.ref a2), .unset] [(.int (1 : Int32))])) _
    refine XS.ifNo X4.here hx rfl (hb hby d5_4) rfl ((if0 _ _).trans (feq ((by decide) : ¬ ((1 : Int32) = (0 : Int32)))).1) ?_
    show Steps p.tables e below (T4.setTop (mkF m 7 #[.val (.ref a1), .val (.ref a2), .unset] [])) _
    refine XS.aloadN X4.here hx rfl (hb hby d5_7) rfl rfl ?_
    show Steps p.tables e below (T4.setTop (mkF m 8 #[.val (.ref a1), .val (.ref a2), .unset] [(.ref a2)])) _
    refine st5 _ ?_
    show Steps p.tables e below (T5.setTop (mkF m 11 #[.val (.ref a1), .val (.ref a2), .unset] [(.ref a2)])) _
    refine XS.astoreN X5.here hx rfl (hb hby d5_11) rfl rfl (l' := #[.val (.ref a1), .val (.ref a2), .val (.ref a2)]) rfl ?_
    show Steps p.tables e below (T5.setTop (mkF m 12 #[.val (.ref a1), .val (.ref a2), .val (.ref a2)] [])) _
    refine XS.aloadN X5.here hx rfl (hb hby d5_12) rfl rfl ?_
    show Steps p.tables e below (T5.setTop (mkF m 13 #[.val (.ref a1), .val (.ref a2), .val (.ref a2)] [(.ref a1)])) _
    refine st8 _ ?_
    show Steps p.tables e below (T8.setTop (mkF m 16 #[.val (.ref a1), .val (.ref a2), .val (.ref a2)] [(.long q6)])) _
    refine XS.aloadN X8.here hx rfl (hb hby d5_16) rfl rfl ?_
    show Steps p.tables e below (T8.setTop (mkF m 17 #[.val (.ref a1), .val (.ref a2), .val (.ref a2)] [(.ref a2), (.long q6)])) _
    refine st11 _ ?_
    show Steps p.tables e below (T11.setTop (mkF m 20 #[.val (.ref a1), .val (.ref a2), .val (.ref a2)] [(.long q9), (.long q6)])) _
    refine XS.lcmp X11.here hx rfl (hb hby d5_20) rfl ?_
    show Steps p.tables e below (T11.setTop (mkF m 21 #[.val (.ref a1), .val (.ref a2), .val (.ref a2)] [(.int (lcmpW q6 q9))])) _
    refine XS.ifNo X11.here hx rfl (hb hby d5_21) rfl ((if0 _ _).trans (teq (hc12 : (lcmpW q6 q9) = (0 : Int32))).2) ?_
    show Steps p.tables e below (T11.setTop (mkF m 24 #[.val (.ref a1), .val (.ref a2), .val (.ref a2)] [])) _
    refine XS.iconst X11.here hx rfl (hb hby d5_24) ?_
    show Steps p.tables e below (T11.setTop (mkF m 25 #[.val (.ref a1), .val (.ref a2), .val (.ref a2)] [(.int (1 : Int32))])) _
    refine XS.goto X11.here hx rfl (pc0 := 25) (pc' := 29) rfl (hb hby d5_25) (by decide) (by decide) ?_
    show Steps p.tables e below (T11.setTop (mkF m 29 #[.val (.ref a1), .val (.ref a2), .val (.ref a2)] [(.int (1 : Int32))])) _
    exact retN X11 hx (t := .boolean) Bd.returns (by simp) (hb hby d5_29) hr
  · show Qrm5 Z a1 a2 q6 q9 h0 n0 _ T11.heap _
    rw [e11]
    exact ⟨rfl, N0, rfl⟩
theorem pd_5 : parseMethodDescriptor "(Ljava/lang/Object;)Z" = some ⟨[(.object "java/lang/Object")], some .boolean⟩ := by decide +kernel
theorem d5_28 : decode prog_87_method_4_code 28 = .ok (.iconst 0, 1) := by decide +kernel
def Qrm5_1 (Z : State) (a1 : Addr) (a2 : Addr) (q6 : Int64) (q9 : Int64) (h0 : Heap) (n0 : Nat) (v : Option Value) (h : Heap) (L : List Loc) : Prop := v = some (.int (0 : Int32)) ∧ Fr n0 L ∧ h = h0
set_option maxRecDepth 65536 in
set_option maxHeartbeats 40000000 in
theorem rm5_1 (l : Launch) (Z : State) (a0 : Array Value) (hw : ∀ d ∈ tables_1, d.before a0 Z = true) (ws : List Jvm.Cond) (a1 : Addr) (a2 : Addr) (q6 : Int64) (q9 : Int64) (h0 : Heap) (n0 : Nat) (O0 : Old Z n0 h0) (E_3 : Exa Z h0 a2 "com/example/drowsy_thunk/drowsythunk/eval/IntValue") (F_7 : Fld Z h0 a1 "com/example/drowsy_thunk/drowsythunk/eval/IntValue" "value" "J" (.long q6)) (F_10 : Fld Z h0 a2 "com/example/drowsy_thunk/drowsythunk/eval/IntValue" "value" "J" (.long q9)) (hc12 : ¬ ((lcmpW q6 q9) = (0 : Int32))) :
    MetFree l (⟨"com/example/drowsy_thunk/drowsythunk/eval/IntValue", "equals", "(Ljava/lang/Object;)Z"⟩ : MethodName) (head1 (Jvm.Cond.code (⟨"com/example/drowsy_thunk/drowsythunk/eval/IntValue", "equals", "(Ljava/lang/Object;)Z"⟩ : MethodName) prog_87_method_4_code 3 (some .boolean) :: ws) ({ frames := 0, cells := 0, slots := 0, locals := 0 } : Room)) (fun a U => a = #[(.ref a1), (.ref a2)] ∧ Z.Warmed39 U.vm ∧ U.heap = h0) (fun _ _ _ _ _ => True) (fun _ U o U' => ∃ v L, o = .returned v ∧ Qrm5_1 Z a1 a2 q6 q9 h0 n0 v U'.heap L ∧ FrameEnd U o U' L ({ frames := 0, cells := 0, slots := 0, locals := 0 } : Room).cells ({ frames := 0, cells := 0, slots := 0, locals := 0 } : Room).slots) := by
  refine MetFree.of_bodySF (plainFor_of_name pn_3) hisR ?_
  intro p e s m args below meth c s₁ Bd hml0 hP hK
  obtain ⟨rfl, hZ, hh⟩ := hP
  have hx := Bd.exec
  have hby := Bd.bytes
  have hml : c.maxLocals = 3 := hml0
  have hown : s.vm.findClass "com/example/drowsy_thunk/drowsythunk/eval/IntValue" = some m.cls := findClass_of_methodNamed Bd.named
  have hnm := (name_of_methodNamed Bd.named Bd.method).1
  have X0 : Stand p l e ({ frames := 0, cells := 0, slots := 0, locals := 0 } : Room) s m #[(.ref a1), (.ref a2)] below meth c s₁ [] 0 0 := Stand.of_body Bd
  have e0 : s₁.heap = h0 := by rw [← hh, Bd.state]; rfl
  have N0 := Fr.nil n0
  have pre0 : ∀ t, Steps p.tables e below (s₁.setTop (mkF m 0 #[.val (.ref a1), .val (.ref a2), .unset] [])) t → Steps p.tables e below (s₁.setTop (entryFrame m #[(.ref a1), (.ref a2)] 3)) t := fun t k => castTop (ef_5_RR m a1 a2) k
  obtain ⟨T4, X4, e4, st4⟩ := instY X0 hx hZ hown (hw _ (List.mem_of_getElem? (i := 26) rfl)) e0 (Ins.self E_3) (g := (mkF m 1 #[.val (.ref a1), .val (.ref a2), .unset] [(.ref a2)])) rfl rfl (hb hby d5_1)
  obtain ⟨T5, X5, e5, st5⟩ := castY X4 hx hZ hown (hw _ (List.mem_of_getElem? (i := 26) rfl)) e4 (Ins.self E_3) (g := (mkF m 8 #[.val (.ref a1), .val (.ref a2), .unset] [(.ref a2)])) rfl rfl (hb hby d5_8)
  obtain ⟨T8, X8, e8, st8⟩ := getF X5 hx hZ hown (host := "") (Or.inl (hw _ (List.mem_of_getElem? (i := 19) rfl))) Via.refl e5 F_7 (g := (mkF m 13 #[.val (.ref a1), .val (.ref a2), .val (.ref a2)] [(.ref a1)])) rfl rfl (hb hby d5_13)
  obtain ⟨T11, X11, e11, st11⟩ := getF X8 hx hZ hown (host := "") (Or.inl (hw _ (List.mem_of_getElem? (i := 19) rfl))) Via.refl e8 F_10 (g := (mkF m 17 #[.val (.ref a1), .val (.ref a2), .val (.ref a2)] [(.ref a2), (.long q6)])) rfl rfl (hb hby d5_17)
  obtain ⟨fs, hr, hrun, hended, hW, hsame⟩ := X11.leave (v := some (.int (0 : Int32))) (fun h => by rw [Bd.returns] at h; cases h)
  refine ⟨_, _, pre0 _ ?_, hrun, hended, _, _, rfl, ?_, ⟨_, rfl⟩, hW, hsame.mono (by decide) (by decide)⟩
  · show Steps p.tables e below (s₁.setTop (mkF m 0 #[.val (.ref a1), .val (.ref a2), .unset] [])) _
    refine XS.aloadN X0.here hx rfl (hb hby d5_0) rfl rfl ?_
    show Steps p.tables e below (s₁.setTop (mkF m 1 #[.val (.ref a1), .val (.ref a2), .unset] [(.ref a2)])) _
    refine st4 _ ?_
    show Steps p.tables e below (T4.setTop (mkF m 4 #[.val (.ref a1), .val (.ref a2), .unset] [(.int (1 : Int32))])) _
    refine XS.ifNo X4.here hx rfl (hb hby d5_4) rfl ((if0 _ _).trans (feq ((by decide) : ¬ ((1 : Int32) = (0 : Int32)))).1) ?_
    show Steps p.tables e below (T4.setTop (mkF m 7 #[.val (.ref a1), .val (.ref a2), .unset] [])) _
    refine XS.aloadN X4.here hx rfl (hb hby d5_7) rfl rfl ?_
    show Steps p.tables e below (T4.setTop (mkF m 8 #[.val (.ref a1), .val (.ref a2), .unset] [(.ref a2)])) _
    refine st5 _ ?_
    show Steps p.tables e below (T5.setTop (mkF m 11 #[.val (.ref a1), .val (.ref a2), .unset] [(.ref a2)])) _
    refine XS.astoreN X5.here hx rfl (hb hby d5_11) rfl rfl (l' := #[.val (.ref a1), .val (.ref a2), .val (.ref a2)]) rfl ?_
    show Steps p.tables e below (T5.setTop (mkF m 12 #[.val (.ref a1), .val (.ref a2), .val (.ref a2)] [])) _
    refine XS.aloadN X5.here hx rfl (hb hby d5_12) rfl rfl ?_
    show Steps p.tables e below (T5.setTop (mkF m 13 #[.val (.ref a1), .val (.ref a2), .val (.ref a2)] [(.ref a1)])) _
    refine st8 _ ?_
    show Steps p.tables e below (T8.setTop (mkF m 16 #[.val (.ref a1), .val (.ref a2), .val (.ref a2)] [(.long q6)])) _
    refine XS.aloadN X8.here hx rfl (hb hby d5_16) rfl rfl ?_
    show Steps p.tables e below (T8.setTop (mkF m 17 #[.val (.ref a1), .val (.ref a2), .val (.ref a2)] [(.ref a2), (.long q6)])) _
    refine st11 _ ?_
    show Steps p.tables e below (T11.setTop (mkF m 20 #[.val (.ref a1), .val (.ref a2), .val (.ref a2)] [(.long q9), (.long q6)])) _
    refine XS.lcmp X11.here hx rfl (hb hby d5_20) rfl ?_
    show Steps p.tables e below (T11.setTop (mkF m 21 #[.val (.ref a1), .val (.ref a2), .val (.ref a2)] [(.int (lcmpW q6 q9))])) _
    refine XS.ifYes X11.here hx rfl (pc0 := 21) (pc' := 28) rfl (hb hby d5_21) rfl ((if0 _ _).trans (feq (hc12 : ¬ ((lcmpW q6 q9) = (0 : Int32)))).2) (by decide) (by decide) ?_
    show Steps p.tables e below (T11.setTop (mkF m 28 #[.val (.ref a1), .val (.ref a2), .val (.ref a2)] [])) _
    refine XS.iconst X11.here hx rfl (hb hby d5_28) ?_
    show Steps p.tables e below (T11.setTop (mkF m 29 #[.val (.ref a1), .val (.ref a2), .val (.ref a2)] [(.int (0 : Int32))])) _
    exact retN X11 hx (t := .boolean) Bd.returns (by simp) (hb hby d5_29) hr
  · show Qrm5_1 Z a1 a2 q6 q9 h0 n0 _ T11.heap _
    rw [e11]
    exact ⟨rfl, N0, rfl⟩
theorem ef_5_Rn (m : MethodId) (x0 : Addr) : entryFrame m #[(.ref x0), .null] 3 = mkF m 0 #[.val (.ref x0), .val .null, .unset] [] := by first | (simp [entryFrame, mkF, argsToLocals, Value.category]; done) | rfl
def Qrm5_2 (Z : State) (a1 : Addr) (h0 : Heap) (n0 : Nat) (v : Option Value) (h : Heap) (L : List Loc) : Prop := v = some (.int (0 : Int32)) ∧ Fr n0 L ∧ h = h0
set_option maxRecDepth 65536 in
set_option maxHeartbeats 40000000 in
theorem rm5_2 (l : Launch) (Z : State) (a0 : Array Value) (hw : ∀ d ∈ tables_1, d.before a0 Z = true) (ws : List Jvm.Cond) (a1 : Addr) (h0 : Heap) (n0 : Nat) (O0 : Old Z n0 h0) :
    MetFree l (⟨"com/example/drowsy_thunk/drowsythunk/eval/IntValue", "equals", "(Ljava/lang/Object;)Z"⟩ : MethodName) (head1 (Jvm.Cond.code (⟨"com/example/drowsy_thunk/drowsythunk/eval/IntValue", "equals", "(Ljava/lang/Object;)Z"⟩ : MethodName) prog_87_method_4_code 3 (some .boolean) :: ws) ({ frames := 0, cells := 0, slots := 0, locals := 0 } : Room)) (fun a U => a = #[(.ref a1), .null] ∧ Z.Warmed39 U.vm ∧ U.heap = h0) (fun _ _ _ _ _ => True) (fun _ U o U' => ∃ v L, o = .returned v ∧ Qrm5_2 Z a1 h0 n0 v U'.heap L ∧ FrameEnd U o U' L ({ frames := 0, cells := 0, slots := 0, locals := 0 } : Room).cells ({ frames := 0, cells := 0, slots := 0, locals := 0 } : Room).slots) := by
  refine MetFree.of_bodySF (plainFor_of_name pn_3) hisR ?_
  intro p e s m args below meth c s₁ Bd hml0 hP hK
  obtain ⟨rfl, hZ, hh⟩ := hP
  have hx := Bd.exec
  have hby := Bd.bytes
  have hml : c.maxLocals = 3 := hml0
  have hown : s.vm.findClass "com/example/drowsy_thunk/drowsythunk/eval/IntValue" = some m.cls := findClass_of_methodNamed Bd.named
  have hnm := (name_of_methodNamed Bd.named Bd.method).1
  have X0 : Stand p l e ({ frames := 0, cells := 0, slots := 0, locals := 0 } : Room) s m #[(.ref a1), .null] below meth c s₁ [] 0 0 := Stand.of_body Bd
  have e0 : s₁.heap = h0 := by rw [← hh, Bd.state]; rfl
  have N0 := Fr.nil n0
  have pre0 : ∀ t, Steps p.tables e below (s₁.setTop (mkF m 0 #[.val (.ref a1), .val .null, .unset] [])) t → Steps p.tables e below (s₁.setTop (entryFrame m #[(.ref a1), .null] 3)) t := fun t k => castTop (ef_5_Rn m a1) k
  obtain ⟨fs, hr, hrun, hended, hW, hsame⟩ := X0.leave (v := some (.int (0 : Int32))) (fun h => by rw [Bd.returns] at h; cases h)
  refine ⟨_, _, pre0 _ ?_, hrun, hended, _, _, rfl, ?_, ⟨_, rfl⟩, hW, hsame.mono (by decide) (by decide)⟩
  · show Steps p.tables e below (s₁.setTop (mkF m 0 #[.val (.ref a1), .val .null, .unset] [])) _
    refine XS.aloadN X0.here hx rfl (hb hby d5_0) rfl rfl ?_
    show Steps p.tables e below (s₁.setTop (mkF m 1 #[.val (.ref a1), .val .null, .unset] [.null])) _
    refine X0.instanceofNull hx (g := (mkF m 1 #[.val (.ref a1), .val .null, .unset] [.null])) rfl rfl (hb hby d5_1) _ ?_
    show Steps p.tables e below (s₁.setTop (mkF m 4 #[.val (.ref a1), .val .null, .unset] [(.int (0 : Int32))])) _
    refine XS.ifYes X0.here hx rfl (pc0 := 4) (pc' := 28) rfl (hb hby d5_4) rfl ((if0 _ _).trans (teq ((by decide) : (0 : Int32) = (0 : Int32))).1) (by decide) (by decide) ?_
    show Steps p.tables e below (s₁.setTop (mkF m 28 #[.val (.ref a1), .val .null, .unset] [])) _
    refine XS.iconst X0.here hx rfl (hb hby d5_28) ?_
    show Steps p.tables e below (s₁.setTop (mkF m 29 #[.val (.ref a1), .val .null, .unset] [(.int (0 : Int32))])) _
    exact retN X0 hx (t := .boolean) Bd.returns (by simp) (hb hby d5_29) hr
  · show Qrm5_2 Z a1 h0 n0 _ s₁.heap _
    rw [e0]
    exact ⟨rfl, N0, rfl⟩
theorem d6_0 : decode jdk_35_method_24_code 0 = .ok (.sipush 128, 3) := by decide +kernel
theorem d6_3 : decode jdk_35_method_24_code 3 = .ok (.istore_n 2, 1) := by decide +kernel
theorem d6_4 : decode jdk_35_method_24_code 4 = .ok (.lload_n 0, 1) := by decide +kernel
theorem d6_5 : decode jdk_35_method_24_code 5 = .ok (.ldc2_w 230, 3) := by decide +kernel
theorem d6_8 : decode jdk_35_method_24_code 8 = .ok (.lcmp, 1) := by decide +kernel
theorem d6_9 : decode jdk_35_method_24_code 9 = .ok (.ifCond .lt 22, 3) := by decide +kernel
theorem d6_31 : decode jdk_35_method_24_code 31 = .ok (.new 1, 3) := by decide +kernel
theorem d6_34 : decode jdk_35_method_24_code 34 = .ok (.dup, 1) := by decide +kernel
theorem d6_35 : decode jdk_35_method_24_code 35 = .ok (.lload_n 0, 1) := by decide +kernel
theorem d6_36 : decode jdk_35_method_24_code 36 = .ok (.invokespecial 240, 3) := by decide +kernel
theorem d7_0 : decode jdk_35_method_26_code 0 = .ok (.aload_n 0, 1) := by decide +kernel
theorem d7_1 : decode jdk_35_method_26_code 1 = .ok (.invokespecial 270, 3) := by decide +kernel
theorem d8_0 : decode jdk_18_method_1_code 0 = .ok (.aload_n 0, 1) := by decide +kernel
theorem d8_1 : decode jdk_18_method_1_code 1 = .ok (.invokespecial 1, 3) := by decide +kernel
theorem d8_4 : decode jdk_18_method_1_code 4 = .ok (.return_, 1) := by decide +kernel
theorem ef_8_R (m : MethodId) (x0 : Addr) : entryFrame m #[(.ref x0)] 1 = mkF m 0 #[.val (.ref x0)] [] := by first | (simp [entryFrame, mkF, argsToLocals, Value.category]; done) | rfl
theorem pn_6 : plainName "java/lang/Number" = true := by first | (simp [plainName, overriddenIn]; done) | decide +kernel
def Qrm8 (Z : State) (a1 : Addr) (h0 : Heap) (n0 : Nat) (v : Option Value) (h : Heap) (L : List Loc) : Prop := v = none ∧ Fr n0 L ∧ h = h0
set_option maxRecDepth 65536 in
set_option maxHeartbeats 40000000 in
theorem rm8 (l : Launch) (Z : State) (a0 : Array Value) (hw : ∀ d ∈ tables_1, d.before a0 Z = true) (ws : List Jvm.Cond) (a1 : Addr) (h0 : Heap) (n0 : Nat) (O0 : Old Z n0 h0) :
    MetFree l (⟨"java/lang/Number", "<init>", "()V"⟩ : MethodName) (head1 (Jvm.Cond.code (⟨"java/lang/Number", "<init>", "()V"⟩ : MethodName) jdk_18_method_1_code 1 none :: ws) ({ frames := 1, cells := 0, slots := 0, locals := 12 } : Room)) (fun a U => a = #[(.ref a1)] ∧ Z.Warmed39 U.vm ∧ U.heap = h0) (fun _ _ _ _ _ => True) (fun _ U o U' => ∃ v L, o = .returned v ∧ Qrm8 Z a1 h0 n0 v U'.heap L ∧ FrameEnd U o U' L ({ frames := 1, cells := 0, slots := 0, locals := 12 } : Room).cells ({ frames := 1, cells := 0, slots := 0, locals := 12 } : Room).slots) := by
  refine MetFree.of_bodySF (plainFor_of_name pn_6) hisR ?_
  intro p e s m args below meth c s₁ Bd hml0 hP hK
  obtain ⟨rfl, hZ, hh⟩ := hP
  have hx := Bd.exec
  have hby := Bd.bytes
  have hml : c.maxLocals = 1 := hml0
  have hown : s.vm.findClass "java/lang/Number" = some m.cls := findClass_of_methodNamed Bd.named
  have hnm := (name_of_methodNamed Bd.named Bd.method).1
  have X0 : Stand p l e ({ frames := 1, cells := 0, slots := 0, locals := 12 } : Room) s m #[(.ref a1)] below meth c s₁ [] 0 0 := Stand.of_body Bd
  have e0 : s₁.heap = h0 := by rw [← hh, Bd.state]; rfl
  have N0 := Fr.nil n0
  have pre0 : ∀ t, Steps p.tables e below (s₁.setTop (mkF m 0 #[.val (.ref a1)] [])) t → Steps p.tables e below (s₁.setTop (entryFrame m #[(.ref a1)] 1)) t := fun t k => castTop (ef_8_R m a1) k
  obtain ⟨T2, X2, e2, st2⟩ := initO X0 hx hZ hown (hw _ (List.mem_of_getElem? (i := 51) rfl)) (hw _ (List.mem_of_getElem? (i := 17) rfl)) (hw _ (List.mem_of_getElem? (i := 18) rfl)) e0 (g := (mkF m 1 #[.val (.ref a1)] [(.ref a1)])) rfl (by rw [hml]; rfl) rfl (hb hby d8_1) (by decide) (W := 0) (by show 2 * 0 + _ ≤ _; exact Nat.le_of_eq rfl) (by decide)
  obtain ⟨fs, hr, hrun, hended, hW, hsame⟩ := X2.leave (v := none) (fun _ => rfl)
  refine ⟨_, _, pre0 _ ?_, hrun, hended, _, _, rfl, ?_, ⟨_, rfl⟩, hW, hsame.mono (by decide) (by decide)⟩
  · show Steps p.tables e below (s₁.setTop (mkF m 0 #[.val (.ref a1)] [])) _
    refine XS.aloadN X0.here hx rfl (hb hby d8_0) rfl rfl ?_
    show Steps p.tables e below (s₁.setTop (mkF m 1 #[.val (.ref a1)] [(.ref a1)])) _
    refine st2 _ ?_
    show Steps p.tables e below (T2.setTop (mkF m 4 #[.val (.ref a1)] [])) _
    exact X2.returnOut hx Bd.returns (hb hby d8_4) hr
  · show Qrm8 Z a1 h0 n0 _ T2.heap _
    rw [e2]
    exact ⟨rfl, N0, rfl⟩
theorem d7_4 : decode jdk_35_method_26_code 4 = .ok (.aload_n 0, 1) := by decide +kernel
theorem d7_5 : decode jdk_35_method_26_code 5 = .ok (.lload_n 1, 1) := by decide +kernel
theorem d7_6 : decode jdk_35_method_26_code 6 = .ok (.putfield 273, 3) := by decide +kernel
theorem d7_9 : decode jdk_35_method_26_code 9 = .ok (.return_, 1) := by decide +kernel
theorem ef_7_RJ (m : MethodId) (x0 : Addr) (x1 : Int64) : entryFrame m #[(.ref x0), (.long x1)] 3 = mkF m 0 #[.val (.ref x0), .val (.long x1), .second] [] := by first | (simp [entryFrame, mkF, argsToLocals, Value.category]; done) | rfl
theorem pn_7 : plainName "java/lang/Long" = true := by first | (simp [plainName, overriddenIn]; done) | decide +kernel
def Qrm7 (Z : State) (a1 : Addr) (q2 : Int64) (h0 : Heap) (n0 : Nat) (v : Option Value) (h : Heap) (L : List Loc) : Prop := v = none ∧ Fr n0 L ∧ Keep h0 h [a1] ∧ Exa Z h a1 "java/lang/Long" ∧ Fld Z h a1 "java/lang/Long" "value" "J" (.long q2)
set_option maxRecDepth 65536 in
set_option maxHeartbeats 40000000 in
theorem rm7 (l : Launch) (Z : State) (a0 : Array Value) (hw : ∀ d ∈ tables_1, d.before a0 Z = true) (ws : List Jvm.Cond) (a1 : Addr) (q2 : Int64) (h0 : Heap) (n0 : Nat) (O0 : Old Z n0 h0) (E_4 : Exa Z h0 a1 "java/lang/Long") (F_5 : Fld Z h0 a1 "java/lang/Long" "value" "J" (.long (0 : Int64))) (g_a1 : n0 ≤ a1) :
    MetFree l (⟨"java/lang/Long", "<init>", "(J)V"⟩ : MethodName) (head1 (Jvm.Cond.code (⟨"java/lang/Long", "<init>", "(J)V"⟩ : MethodName) jdk_35_method_26_code 3 none :: ws) ({ frames := 2, cells := 0, slots := 0, locals := 24 } : Room)) (fun a U => a = #[(.ref a1), (.long q2)] ∧ Z.Warmed39 U.vm ∧ U.heap = h0) (fun _ _ _ _ _ => True) (fun _ U o U' => ∃ v L, o = .returned v ∧ Qrm7 Z a1 q2 h0 n0 v U'.heap L ∧ FrameEnd U o U' L ({ frames := 2, cells := 0, slots := 0, locals := 24 } : Room).cells ({ frames := 2, cells := 0, slots := 0, locals := 24 } : Room).slots) := by
  refine MetFree.of_bodySF (plainFor_of_name pn_7) hisR ?_
  intro p e s m args below meth c s₁ Bd hml0 hP hK
  obtain ⟨rfl, hZ, hh⟩ := hP
  have hx := Bd.exec
  have hby := Bd.bytes
  have hml : c.maxLocals = 3 := hml0
  have hown : s.vm.findClass "java/lang/Long" = some m.cls := findClass_of_methodNamed Bd.named
  have hnm := (name_of_methodNamed Bd.named Bd.method).1
  have X0 : Stand p l e ({ frames := 2, cells := 0, slots := 0, locals := 24 } : Room) s m #[(.ref a1), (.long q2)] below meth c s₁ [] 0 0 := Stand.of_body Bd
  have e0 : s₁.heap = h0 := by rw [← hh, Bd.state]; rfl
  have N0 := Fr.nil n0
  have pre0 : ∀ t, Steps p.tables e below (s₁.setTop (mkF m 0 #[.val (.ref a1), .val (.long q2), .second] [])) t → Steps p.tables e below (s₁.setTop (entryFrame m #[(.ref a1), (.long q2)] 3)) t := fun t k => castTop (ef_7_RJ m a1 q2) k
  obtain ⟨_, _, ⟨T3, L3, k3, n3⟩, -, X3, ⟨Lc3, hQ3, l3, y3, z3⟩, st3⟩ := X0.specialBack hx (y := (⟨"java/lang/Number", "<init>", "()V"⟩ : MethodName)) rfl hown (mvT hZ (hw _ (List.mem_of_getElem? (i := 45) rfl))) (mvT hZ (hw _ (List.mem_of_getElem? (i := 46) rfl))) (mvT hZ (hw _ (List.mem_of_getElem? (i := 50) rfl))) (by decide) (backOf (W := 0) (rm8 l Z a0 hw [] a1 h0 n0 O0 ) hZ (hw _ (List.mem_of_getElem? (i := 50) rfl)) (hw _ (List.mem_of_getElem? (i := 49) rfl)) (by decide) (by decide)) (g := (mkF m 1 #[.val (.ref a1), .val (.long q2), .second] [(.ref a1)])) rfl (by rw [hml]; rfl) (Steps.refl _) (a := a1) (argsL := []) (rest := []) (lenOf pd_1 rfl) rfl (by show 2 * 0 + _ ≤ _; exact Nat.le_of_eq rfl) (hb hby d7_1) (fun _ _ => ⟨rfl, e0, (by decide : 0 + 0 ≤ _), (by decide : 0 + 0 ≤ _)⟩)
  dsimp only [Pt.U, Pt.locs, Pt.cells, Pt.slots] at X3 l3 y3 z3 st3 hQ3
  subst l3 y3 z3
  obtain ⟨rfl, Nq3, e3⟩ := hQ3
  have N3 := Fr.app N0 Nq3
  obtain ⟨T6, h6, X6, e6, W6, st6⟩ := putF X3 hx hZ hown (host := "") (Or.inl (hw _ (List.mem_of_getElem? (i := 52) rfl))) Via.refl e3 F_5 E_4 (Or.inr ⟨(hw _ (List.mem_of_getElem? (i := 53) rfl)), rfl, hnm⟩) (hw _ (List.mem_of_getElem? (i := 40) rfl)) (ty := .long) (by decide) rfl rfl (g := (mkF m 6 #[.val (.ref a1), .val (.long q2), .second] [(.long q2), (.ref a1)])) rfl rfl (hb hby d7_6)
  have K6 : Keep h0 h6 [a1] := (Keep.refl h0 [a1]).wr W6 (Or.inl (List.mem_of_getElem? (i := 0) rfl))
  have O6 : Old Z n0 h6 := O0.wr W6 g_a1
  have N6 := Fr.snoc X6 N3 g_a1
  have Fw6 : Fld Z h6 a1 "java/lang/Long" "value" "J" (.long q2) := F_5.same W6
  have f7 : Exa Z h6 a1 "java/lang/Long" := (E_4.wr W6)
  obtain ⟨fs, hr, hrun, hended, hW, hsame⟩ := X6.leave (v := none) (fun _ => rfl)
  refine ⟨_, _, pre0 _ ?_, hrun, hended, _, _, rfl, ?_, ⟨_, rfl⟩, hW, hsame.mono (by decide) (by decide)⟩
  · show Steps p.tables e below (s₁.setTop (mkF m 0 #[.val (.ref a1), .val (.long q2), .second] [])) _
    refine XS.aloadN X0.here hx rfl (hb hby d7_0) rfl rfl ?_
    show Steps p.tables e below (s₁.setTop (mkF m 1 #[.val (.ref a1), .val (.long q2), .second] [(.ref a1)])) _
    refine st3.trans ?_
    show Steps p.tables e below (T3.setTop (mkF m 4 #[.val (.ref a1), .val (.long q2), .second] [])) _
    refine XS.aloadN X3.here hx rfl (hb hby d7_4) rfl rfl ?_
    show Steps p.tables e below (T3.setTop (mkF m 5 #[.val (.ref a1), .val (.long q2), .second] [(.ref a1)])) _
    refine XS.lloadN X3.here hx rfl (hb hby d7_5) rfl ?_
    show Steps p.tables e below (T3.setTop (mkF m 6 #[.val (.ref a1), .val (.long q2), .second] [(.long q2), (.ref a1)])) _
    refine st6 _ ?_
    show Steps p.tables e below (T6.setTop (mkF m 9 #[.val (.ref a1), .val (.long q2), .second] [])) _
    exact X6.returnOut hx Bd.returns (hb hby d7_9) hr
  · show Qrm7 Z a1 q2 h0 n0 _ T6.heap _
    rw [e6]
    exact ⟨rfl, N6, K6, f7, Fw6⟩
theorem d6_39 : decode jdk_35_method_24_code 39 = .ok (.areturn, 1) := by decide +kernel
theorem ef_6_J (m : MethodId) (x0 : Int64) : entryFrame m #[(.long x0)] 3 = mkF m 0 #[.val (.long x0), .second, .unset] [] := by first | (simp [entryFrame, mkF, argsToLocals, Value.category]; done) | rfl
def Qrm6 (Z : State) (q1 : Int64) (h0 : Heap) (n0 : Nat) (v : Option Value) (h : Heap) (L : List Loc) : Prop := ∃ b3 : Addr, v = some (.ref b3) ∧ Fr n0 L ∧ Keep h0 h [] ∧ h0.size ≤ b3 ∧ Exa Z h b3 "java/lang/Long" ∧ Fld Z h b3 "java/lang/Long" "value" "J" (.long q1)
set_option maxRecDepth 65536 in
set_option maxHeartbeats 40000000 in
theorem rm6 (l : Launch) (Z : State) (a0 : Array Value) (hw : ∀ d ∈ tables_1, d.before a0 Z = true) (ws : List Jvm.Cond) (q1 : Int64) (h0 : Heap) (n0 : Nat) (O0 : Old Z n0 h0) (hc2 : (lcmpW q1 (-128 : Int64)) < (0 : Int32)) :
    MetFree l (⟨"java/lang/Long", "valueOf", "(J)Ljava/lang/Long;"⟩ : MethodName) (head1 (Jvm.Cond.code (⟨"java/lang/Long", "valueOf", "(J)Ljava/lang/Long;"⟩ : MethodName) jdk_35_method_24_code 3 (some (.object "java/lang/Long")) :: ws) ({ frames := 3, cells := 1, slots := 1, locals := 39 } : Room)) (fun a U => a = #[(.long q1)] ∧ Z.Warmed39 U.vm ∧ U.heap = h0) (fun _ _ _ _ _ => True) (fun _ U o U' => ∃ v L, o = .returned v ∧ Qrm6 Z q1 h0 n0 v U'.heap L ∧ FrameEnd U o U' L ({ frames := 3, cells := 1, slots := 1, locals := 39 } : Room).cells ({ frames := 3, cells := 1, slots := 1, locals := 39 } : Room).slots) := by
  refine MetFree.of_bodySF (plainFor_of_name pn_7) hisR ?_
  intro p e s m args below meth c s₁ Bd hml0 hP hK
  obtain ⟨rfl, hZ, hh⟩ := hP
  have hx := Bd.exec
  have hby := Bd.bytes
  have hml : c.maxLocals = 3 := hml0
  have hown : s.vm.findClass "java/lang/Long" = some m.cls := findClass_of_methodNamed Bd.named
  have hnm := (name_of_methodNamed Bd.named Bd.method).1
  have X0 : Stand p l e ({ frames := 3, cells := 1, slots := 1, locals := 39 } : Room) s m #[(.long q1)] below meth c s₁ [] 0 0 := Stand.of_body Bd
  have e0 : s₁.heap = h0 := by rw [← hh, Bd.state]; rfl
  have N0 := Fr.nil n0
  have pre0 : ∀ t, Steps p.tables e below (s₁.setTop (mkF m 0 #[.val (.long q1), .second, .unset] [])) t → Steps p.tables e below (s₁.setTop (entryFrame m #[(.long q1)] 3)) t := fun t k => castTop (ef_6_J m q1) k
  obtain ⟨T3, h3, X3, e3, E3, A3, D3, U3, st3⟩ := newO X0 hx hZ hown (hw _ (List.mem_of_getElem? (i := 39) rfl)) (hw _ (List.mem_of_getElem? (i := 40) rfl)) (hw _ (List.mem_of_getElem? (i := 30) rfl)) e0 (g := (mkF m 31 #[.val (.long q1), .second, .val (.int (128 : Int32))] [])) rfl (hb hby d6_31) (by decide) (by decide)
  obtain ⟨b3, g3⟩ : ∃ z, z = h0.size := ⟨_, rfl⟩
  rw [← g3] at A3 D3 U3 st3
  have g_b3 : n0 ≤ b3 := own_born O0 (own_eqle g3)
  have sz_b3 : h0.size ≤ b3 := Nat.le_trans (Keep.refl h0 []).1 (own_eqle g3)
  have K3 : Keep h0 h3 [] := (Keep.refl h0 []).ext E3
  have O3 : Old Z n0 h3 := O0.ext E3
  have F3_value : Fld Z h3 b3 "java/lang/Long" "value" "J" (.long (0 : Int64)) := D3 (Or.inr (hw _ (List.mem_of_getElem? (i := 53) rfl))) (ty := .long) (by decide)
  obtain ⟨_, _, ⟨T4, L4, k4, n4⟩, -, X4, ⟨Lc4, hQ4, l4, y4, z4⟩, st4⟩ := X3.specialBack hx (y := (⟨"java/lang/Long", "<init>", "(J)V"⟩ : MethodName)) rfl hown (mvT hZ (hw _ (List.mem_of_getElem? (i := 41) rfl))) (mvT hZ (hw _ (List.mem_of_getElem? (i := 42) rfl))) (mvT hZ (hw _ (List.mem_of_getElem? (i := 44) rfl))) (by decide) (backOf (W := 1) (rm7 l Z a0 hw [] b3 q1 h3 n0 O3 A3 F3_value g_b3) hZ (hw _ (List.mem_of_getElem? (i := 44) rfl)) (hw _ (List.mem_of_getElem? (i := 30) rfl)) (by decide) (by decide)) (g := (mkF m 36 #[.val (.long q1), .second, .val (.int (128 : Int32))] [(.long q1), (.ref b3), (.ref b3)])) rfl (by rw [hml]; rfl) (Steps.refl _) (a := b3) (argsL := [(.long q1)]) (rest := [(.ref b3)]) (lenOf pd_4 rfl) rfl (by show 2 * 0 + _ ≤ _; exact Nat.le_of_eq rfl) (hb hby d6_36) (fun _ _ => ⟨rfl, e3, (by decide : 1 + 0 ≤ _), (by decide : 1 + 0 ≤ _)⟩)
  dsimp only [Pt.U, Pt.locs, Pt.cells, Pt.slots] at X4 l4 y4 z4 st4 hQ4
  subst l4 y4 z4
  obtain ⟨rfl, Nq4, K4, P4_0, P4_1⟩ := hQ4
  have N4 := Fr.app N0 Nq4
  have KK4 : Keep h0 T4.heap [] := Keep.trans (h := h3) K3 K4 (allS (Or.inr sz_b3) all0)
  have O4 : Old Z n0 T4.heap := O3.keep K4 (allS g_b3 all0)
  obtain ⟨fs, hr, hrun, hended, hW, hsame⟩ := X4.leave (v := some (.ref b3)) (fun h => by rw [Bd.returns] at h; cases h)
  refine ⟨_, _, pre0 _ ?_, hrun, hended, _, _, rfl, ?_, ⟨_, rfl⟩, hW, hsame.mono (by decide) (by decide)⟩
  · show Steps p.tables e below (s₁.setTop (mkF m 0 #[.val (.long q1), .second, .unset] [])) _
    refine XS.sipush X0.here hx rfl (hb hby d6_0) ?_
    show Steps p.tables e below (s₁.setTop (mkF m 3 #[.val (.long q1), .second, .unset] [(.int (128 : Int32))])) _
    refine XS.istoreN X0.here hx rfl (hb hby d6_3) rfl (l' := #[.val (.long q1), .second, .val (.int (128 : Int32))]) rfl ?_
    show Steps p.tables e below (s₁.setTop (mkF m 4 #[.val (.long q1), .second, .val (.int (128 : Int32))] [])) _
    refine XS.lloadN X0.here hx rfl (hb hby d6_4) rfl ?_
    show Steps p.tables e below (s₁.setTop (mkF m 5 #[.val (.long q1), .second, .val (.int (128 : Int32))] [(.long q1)])) _
    refine X0.ldc2Long hx hown (mvT hZ (hw _ (List.mem_of_getElem? (i := 32) rfl))) (g := (mkF m 5 #[.val (.long q1), .second, .val (.int (128 : Int32))] [(.long q1)])) rfl (hb hby d6_5) _ ?_
    show Steps p.tables e below (s₁.setTop (mkF m 8 #[.val (.long q1), .second, .val (.int (128 : Int32))] [(.long (-128 : Int64)), (.long q1)])) _
    refine XS.lcmp X0.here hx rfl (hb hby d6_8) rfl ?_
    show Steps p.tables e below (s₁.setTop (mkF m 9 #[.val (.long q1), .second, .val (.int (128 : Int32))] [(.int (lcmpW q1 (-128 : Int64)))])) _
    refine XS.ifYes X0.here hx rfl (pc0 := 9) (pc' := 31) rfl (hb hby d6_9) rfl ((if0 _ _).trans (tlt (hc2 : (lcmpW q1 (-128 : Int64)) < (0 : Int32))).1) (by decide) (by decide) ?_
    show Steps p.tables e below (s₁.setTop (mkF m 31 #[.val (.long q1), .second, .val (.int (128 : Int32))] [])) _
    refine st3 _ ?_
    show Steps p.tables e below (T3.setTop (mkF m 34 #[.val (.long q1), .second, .val (.int (128 : Int32))] [(.ref b3)])) _
    refine XS.dup X3.here hx rfl (hb hby d6_34) rfl rfl ?_
    show Steps p.tables e below (T3.setTop (mkF m 35 #[.val (.long q1), .second, .val (.int (128 : Int32))] [(.ref b3), (.ref b3)])) _
    refine XS.lloadN X3.here hx rfl (hb hby d6_35) rfl ?_
    show Steps p.tables e below (T3.setTop (mkF m 36 #[.val (.long q1), .second, .val (.int (128 : Int32))] [(.long q1), (.ref b3), (.ref b3)])) _
    refine st4.trans ?_
    show Steps p.tables e below (T4.setTop (mkF m 39 #[.val (.long q1), .second, .val (.int (128 : Int32))] [(.ref b3)])) _
    jvm_step X4.here [X4.here.top, hx, (hb hby d6_39), X4.method', Bd.returns, Value.isRef, FieldType.isReference]
    first | (intro acts; rw [hr _ acts rfl rfl rfl]) | rw [hr _ _ rfl rfl rfl]
    exact Steps.refl _
  · show Qrm6 Z q1 h0 n0 _ T4.heap _
    exact ⟨b3, rfl, N4, KK4, sz_b3, P4_0, P4_1⟩
theorem pd_8 : parseMethodDescriptor "(J)Ljava/lang/Long;" = some ⟨[.long], some (.object "java/lang/Long")⟩ := by decide +kernel
def Qrm5_3 (Z : State) (a1 : Addr) (a2 : Addr) (h0 : Heap) (n0 : Nat) (v : Option Value) (h : Heap) (L : List Loc) : Prop := v = some (.int (0 : Int32)) ∧ Fr n0 L ∧ h = h0
set_option maxRecDepth 65536 in
set_option maxHeartbeats 40000000 in
theorem rm5_3 (l : Launch) (Z : State) (a0 : Array Value) (hw : ∀ d ∈ tables_1, d.before a0 Z = true) (ws : List Jvm.Cond) (a1 : Addr) (a2 : Addr) (h0 : Heap) (n0 : Nat) (O0 : Old Z n0 h0) (E_3 : Exa Z h0 a2 "java/lang/Long") :
    MetFree l (⟨"com/example/drowsy_thunk/drowsythunk/eval/IntValue", "equals", "(Ljava/lang/Object;)Z"⟩ : MethodName) (head1 (Jvm.Cond.code (⟨"com/example/drowsy_thunk/drowsythunk/eval/IntValue", "equals", "(Ljava/lang/Object;)Z"⟩ : MethodName) prog_87_method_4_code 3 (some .boolean) :: ws) ({ frames := 0, cells := 0, slots := 0, locals := 0 } : Room)) (fun a U => a = #[(.ref a1), (.ref a2)] ∧ Z.Warmed39 U.vm ∧ U.heap = h0) (fun _ _ _ _ _ => True) (fun _ U o U' => ∃ v L, o = .returned v ∧ Qrm5_3 Z a1 a2 h0 n0 v U'.heap L ∧ FrameEnd U o U' L ({ frames := 0, cells := 0, slots := 0, locals := 0 } : Room).cells ({ frames := 0, cells := 0, slots := 0, locals := 0 } : Room).slots) := by
  refine MetFree.of_bodySF (plainFor_of_name pn_3) hisR ?_
  intro p e s m args below meth c s₁ Bd hml0 hP hK
  obtain ⟨rfl, hZ, hh⟩ := hP
  have hx := Bd.exec
  have hby := Bd.bytes
  have hml : c.maxLocals = 3 := hml0
  have hown : s.vm.findClass "com/example/drowsy_thunk/drowsythunk/eval/IntValue" = some m.cls := findClass_of_methodNamed Bd.named
  have hnm := (name_of_methodNamed Bd.named Bd.method).1
  have X0 : Stand p l e ({ frames := 0, cells := 0, slots := 0, locals := 0 } : Room) s m #[(.ref a1), (.ref a2)] below meth c s₁ [] 0 0 := Stand.of_body Bd
  have e0 : s₁.heap = h0 := by rw [← hh, Bd.state]; rfl
  have N0 := Fr.nil n0
  have pre0 : ∀ t, Steps p.tables e below (s₁.setTop (mkF m 0 #[.val (.ref a1), .val (.ref a2), .unset] [])) t → Steps p.tables e below (s₁.setTop (entryFrame m #[(.ref a1), (.ref a2)] 3)) t := fun t k => castTop (ef_5_RR m a1 a2) k
  obtain ⟨T4, X4, e4, st4⟩ := instNo X0 hx hZ hown (hw _ (List.mem_of_getElem? (i := 26) rfl)) e0 E_3 (own_NSno (hw _ (List.mem_of_getElem? (i := 36) rfl)) (hw _ (List.mem_of_getElem? (i := 1) rfl)) (NS.step (hw _ (List.mem_of_getElem? (i := 36) rfl)) (NS.step (hw _ (List.mem_of_getElem? (i := 37) rfl)) (own_NSroot (hw _ (List.mem_of_getElem? (i := 38) rfl)) (hw _ (List.mem_of_getElem? (i := 1) rfl)) (by decide)) (by decide)) (by decide)) (by decide)) (g := (mkF m 1 #[.val (.ref a1), .val (.ref a2), .unset] [(.ref a2)])) rfl rfl (hb hby d5_1)
  obtain ⟨fs, hr, hrun, hended, hW, hsame⟩ := X4.leave (v := some (.int (0 : Int32))) (fun h => by rw [Bd.returns] at h; cases h)
  refine ⟨_, _, pre0 _ ?_, hrun, hended, _, _, rfl, ?_, ⟨_, rfl⟩, hW, hsame.mono (by decide) (by decide)⟩
  · show Steps p.tables e below (s₁.setTop (mkF m 0 #[.val (.ref a1), .val (.ref a2), .unset] [])) _
    refine XS.aloadN X0.here hx rfl (hb hby d5_0) rfl rfl ?_
    show Steps p.tables e below (s₁.setTop (mkF m 1 #[.val (.ref a1), .val (.ref a2), .unset] [(.ref a2)])) _
    refine st4 _ ?_
    show Steps p.tables e below (T4.setTop (mkF m 4 #[.val (.ref a1), .val (.ref a2), .unset] [(.int (0 : Int32))])) _
    refine XS.ifYes X4.here hx rfl (pc0 := 4) (pc' := 28) rfl (hb hby d5_4) rfl ((if0 _ _).trans (teq ((by decide) : (0 : Int32) = (0 : Int32))).1) (by decide) (by decide) ?_
    show Steps p.tables e below (T4.setTop (mkF m 28 #[.val (.ref a1), .val (.ref a2), .unset] [])) _
    refine XS.iconst X4.here hx rfl (hb hby d5_28) ?_
    show Steps p.tables e below (T4.setTop (mkF m 29 #[.val (.ref a1), .val (.ref a2), .unset] [(.int (0 : Int32))])) _
    exact retN X4 hx (t := .boolean) Bd.returns (by simp) (hb hby d5_29) hr
  · show Qrm5_3 Z a1 a2 h0 n0 _ T4.heap _
    rw [e4]
    exact ⟨rfl, N0, rfl⟩
theorem d6_12 : decode jdk_35_method_24_code 12 = .ok (.lload_n 0, 1) := by decide +kernel
theorem d6_13 : decode jdk_35_method_24_code 13 = .ok (.ldc2_w 232, 3) := by decide +kernel
theorem d6_16 : decode jdk_35_method_24_code 16 = .ok (.lcmp, 1) := by decide +kernel
theorem d6_17 : decode jdk_35_method_24_code 17 = .ok (.ifCond .gt 14, 3) := by decide +kernel
def Qrm6_1 (Z : State) (q1 : Int64) (h0 : Heap) (n0 : Nat) (v : Option Value) (h : Heap) (L : List Loc) : Prop := ∃ b4 : Addr, v = some (.ref b4) ∧ Fr n0 L ∧ Keep h0 h [] ∧ h0.size ≤ b4 ∧ Exa Z h b4 "java/lang/Long" ∧ Fld Z h b4 "java/lang/Long" "value" "J" (.long q1)
set_option maxRecDepth 65536 in
set_option maxHeartbeats 40000000 in
theorem rm6_1 (l : Launch) (Z : State) (a0 : Array Value) (hw : ∀ d ∈ tables_1, d.before a0 Z = true) (ws : List Jvm.Cond) (q1 : Int64) (h0 : Heap) (n0 : Nat) (O0 : Old Z n0 h0) (hc2 : ¬ ((lcmpW q1 (-128 : Int64)) < (0 : Int32))) (hc3 : (0 : Int32) < (lcmpW q1 (127 : Int64))) :
    MetFree l (⟨"java/lang/Long", "valueOf", "(J)Ljava/lang/Long;"⟩ : MethodName) (head1 (Jvm.Cond.code (⟨"java/lang/Long", "valueOf", "(J)Ljava/lang/Long;"⟩ : MethodName) jdk_35_method_24_code 3 (some (.object "java/lang/Long")) :: ws) ({ frames := 3, cells := 1, slots := 1, locals := 39 } : Room)) (fun a U => a = #[(.long q1)] ∧ Z.Warmed39 U.vm ∧ U.heap = h0) (fun _ _ _ _ _ => True) (fun _ U o U' => ∃ v L, o = .returned v ∧ Qrm6_1 Z q1 h0 n0 v U'.heap L ∧ FrameEnd U o U' L ({ frames := 3, cells := 1, slots := 1, locals := 39 } : Room).cells ({ frames := 3, cells := 1, slots := 1, locals := 39 } : Room).slots) := by
  refine MetFree.of_bodySF (plainFor_of_name pn_7) hisR ?_
  intro p e s m args below meth c s₁ Bd hml0 hP hK
  obtain ⟨rfl, hZ, hh⟩ := hP
  have hx := Bd.exec
  have hby := Bd.bytes
  have hml : c.maxLocals = 3 := hml0
  have hown : s.vm.findClass "java/lang/Long" = some m.cls := findClass_of_methodNamed Bd.named
  have hnm := (name_of_methodNamed Bd.named Bd.method).1
  have X0 : Stand p l e ({ frames := 3, cells := 1, slots := 1, locals := 39 } : Room) s m #[(.long q1)] below meth c s₁ [] 0 0 := Stand.of_body Bd
  have e0 : s₁.heap = h0 := by rw [← hh, Bd.state]; rfl
  have N0 := Fr.nil n0
  have pre0 : ∀ t, Steps p.tables e below (s₁.setTop (mkF m 0 #[.val (.long q1), .second, .unset] [])) t → Steps p.tables e below (s₁.setTop (entryFrame m #[(.long q1)] 3)) t := fun t k => castTop (ef_6_J m q1) k
  obtain ⟨T4, h4, X4, e4, E4, A4, D4, U4, st4⟩ := newO X0 hx hZ hown (hw _ (List.mem_of_getElem? (i := 39) rfl)) (hw _ (List.mem_of_getElem? (i := 40) rfl)) (hw _ (List.mem_of_getElem? (i := 30) rfl)) e0 (g := (mkF m 31 #[.val (.long q1), .second, .val (.int (128 : Int32))] [])) rfl (hb hby d6_31) (by decide) (by decide)
  obtain ⟨b4, g4⟩ : ∃ z, z = h0.size := ⟨_, rfl⟩
  rw [← g4] at A4 D4 U4 st4
  have g_b4 : n0 ≤ b4 := own_born O0 (own_eqle g4)
  have sz_b4 : h0.size ≤ b4 := Nat.le_trans (Keep.refl h0 []).1 (own_eqle g4)
  have K4 : Keep h0 h4 [] := (Keep.refl h0 []).ext E4
  have O4 : Old Z n0 h4 := O0.ext E4
  have F4_value : Fld Z h4 b4 "java/lang/Long" "value" "J" (.long (0 : Int64)) := D4 (Or.inr (hw _ (List.mem_of_getElem? (i := 53) rfl))) (ty := .long) (by decide)
  obtain ⟨_, _, ⟨T5, L5, k5, n5⟩, -, X5, ⟨Lc5, hQ5, l5, y5, z5⟩, st5⟩ := X4.specialBack hx (y := (⟨"java/lang/Long", "<init>", "(J)V"⟩ : MethodName)) rfl hown (mvT hZ (hw _ (List.mem_of_getElem? (i := 41) rfl))) (mvT hZ (hw _ (List.mem_of_getElem? (i := 42) rfl))) (mvT hZ (hw _ (List.mem_of_getElem? (i := 44) rfl))) (by decide) (backOf (W := 1) (rm7 l Z a0 hw [] b4 q1 h4 n0 O4 A4 F4_value g_b4) hZ (hw _ (List.mem_of_getElem? (i := 44) rfl)) (hw _ (List.mem_of_getElem? (i := 30) rfl)) (by decide) (by decide)) (g := (mkF m 36 #[.val (.long q1), .second, .val (.int (128 : Int32))] [(.long q1), (.ref b4), (.ref b4)])) rfl (by rw [hml]; rfl) (Steps.refl _) (a := b4) (argsL := [(.long q1)]) (rest := [(.ref b4)]) (lenOf pd_4 rfl) rfl (by show 2 * 0 + _ ≤ _; exact Nat.le_of_eq rfl) (hb hby d6_36) (fun _ _ => ⟨rfl, e4, (by decide : 1 + 0 ≤ _), (by decide : 1 + 0 ≤ _)⟩)
  dsimp only [Pt.U, Pt.locs, Pt.cells, Pt.slots] at X5 l5 y5 z5 st5 hQ5
  subst l5 y5 z5
  obtain ⟨rfl, Nq5, K5, P5_0, P5_1⟩ := hQ5
  have N5 := Fr.app N0 Nq5
  have KK5 : Keep h0 T5.heap [] := Keep.trans (h := h4) K4 K5 (allS (Or.inr sz_b4) all0)
  have O5 : Old Z n0 T5.heap := O4.keep K5 (allS g_b4 all0)
  obtain ⟨fs, hr, hrun, hended, hW, hsame⟩ := X5.leave (v := some (.ref b4)) (fun h => by rw [Bd.returns] at h; cases h)
  refine ⟨_, _, pre0 _ ?_, hrun, hended, _, _, rfl, ?_, ⟨_, rfl⟩, hW, hsame.mono (by decide) (by decide)⟩
  · show Steps p.tables e below (s₁.setTop (mkF m 0 #[.val (.long q1), .second, .unset] [])) _
    refine XS.sipush X0.here hx rfl (hb hby d6_0) ?_
    show Steps p.tables e below (s₁.setTop (mkF m 3 #[.val (.long q1), .second, .unset] [(.int (128 : Int32))])) _
    refine XS.istoreN X0.here hx rfl (hb hby d6_3) rfl (l' := #[.val (.long q1), .second, .val (.int (128 : Int32))]) rfl ?_
    show Steps p.tables e below (s₁.setTop (mkF m 4 #[.val (.long q1), .second, .val (.int (128 : Int32))] [])) _
    refine XS.lloadN X0.here hx rfl (hb hby d6_4) rfl ?_
    show Steps p.tables e below (s₁.setTop (mkF m 5 #[.val (.long q1), .second, .val (.int (128 : Int32))] [(.long q1)])) _
    refine X0.ldc2Long hx hown (mvT hZ (hw _ (List.mem_of_getElem? (i := 32) rfl))) (g := (mkF m 5 #[.val (.long q1), .second, .val (.int (128 : Int32))] [(.long q1)])) rfl (hb hby d6_5) _ ?_
    show Steps p.tables e below (s₁.setTop (mkF m 8 #[.val (.long q1), .second, .val (.int (128 : Int32))] [(.long (-128 : Int64)), (.long q1)])) _
    refine XS.lcmp X0.here hx rfl (hb hby d6_8) rfl ?_
    show Steps p.tables e below (s₁.setTop (mkF m 9 #[.val (.long q1), .second, .val (.int (128 : Int32))] [(.int (lcmpW q1 (-128 : Int64)))])) _
    refine XS.ifNo X0.here hx rfl (hb hby d6_9) rfl ((if0 _ _).trans (flt (hc2 : ¬ ((lcmpW q1 (-128 : Int64)) < (0 : Int32)))).1) ?_
    show Steps p.tables e below (s₁.setTop (mkF m 12 #[.val (.long q1), .second, .val (.int (128 : Int32))] [])) _
    refine XS.lloadN X0.here hx rfl (hb hby d6_12) rfl ?_
    show Steps p.tables e below (s₁.setTop (mkF m 13 #[.val (.long q1), .second, .val (.int (128 : Int32))] [(.long q1)])) _
    refine X0.ldc2Long hx hown (mvT hZ (hw _ (List.mem_of_getElem? (i := 33) rfl))) (g := (mkF m 13 #[.val (.long q1), .second, .val (.int (128 : Int32))] [(.long q1)])) rfl (hb hby d6_13) _ ?_
    show Steps p.tables e below (s₁.setTop (mkF m 16 #[.val (.long q1), .second, .val (.int (128 : Int32))] [(.long (127 : Int64)), (.long q1)])) _
    refine XS.lcmp X0.here hx rfl (hb hby d6_16) rfl ?_
    show Steps p.tables e below (s₁.setTop (mkF m 17 #[.val (.long q1), .second, .val (.int (128 : Int32))] [(.int (lcmpW q1 (127 : Int64)))])) _
    refine XS.ifYes X0.here hx rfl (pc0 := 17) (pc' := 31) rfl (hb hby d6_17) rfl ((if0 _ _).trans (tlt (hc3 : (0 : Int32) < (lcmpW q1 (127 : Int64)))).2.2.1) (by decide) (by decide) ?_
    show Steps p.tables e below (s₁.setTop (mkF m 31 #[.val (.long q1), .second, .val (.int (128 : Int32))] [])) _
    refine st4 _ ?_
    show Steps p.tables e below (T4.setTop (mkF m 34 #[.val (.long q1), .second, .val (.int (128 : Int32))] [(.ref b4)])) _
    refine XS.dup X4.here hx rfl (hb hby d6_34) rfl rfl ?_
    show Steps p.tables e below (T4.setTop (mkF m 35 #[.val (.long q1), .second, .val (.int (128 : Int32))] [(.ref b4), (.ref b4)])) _
    refine XS.lloadN X4.here hx rfl (hb hby d6_35) rfl ?_
    show Steps p.tables e below (T4.setTop (mkF m 36 #[.val (.long q1), .second, .val (.int (128 : Int32))] [(.long q1), (.ref b4), (.ref b4)])) _
    refine st5.trans ?_
    show Steps p.tables e below (T5.setTop (mkF m 39 #[.val (.long q1), .second, .val (.int (128 : Int32))] [(.ref b4)])) _
    jvm_step X5.here [X5.here.top, hx, (hb hby d6_39), X5.method', Bd.returns, Value.isRef, FieldType.isReference]
    first | (intro acts; rw [hr _ acts rfl rfl rfl]) | rw [hr _ _ rfl rfl rfl]
    exact Steps.refl _
  · show Qrm6_1 Z q1 h0 n0 _ T5.heap _
    exact ⟨b4, rfl, N5, KK5, sz_b4, P5_0, P5_1⟩
theorem d6_20 : decode jdk_35_method_24_code 20 = .ok (.getstatic 234, 3) := by decide +kernel
theorem d6_23 : decode jdk_35_method_24_code 23 = .ok (.lload_n 0, 1) := by decide +kernel
theorem d6_24 : decode jdk_35_method_24_code 24 = .ok (.l2i, 1) := by decide +kernel
theorem d6_25 : decode jdk_35_method_24_code 25 = .ok (.sipush 128, 3) := by decide +kernel
theorem d6_28 : decode jdk_35_method_24_code 28 = .ok (.iadd, 1) := by decide +kernel
theorem d6_29 : decode jdk_35_method_24_code 29 = .ok (.aaload, 1) := by decide +kernel
theorem d6_30 : decode jdk_35_method_24_code 30 = .ok (.areturn, 1) := by decide +kernel
def Qrm6_2 (Z : State) (q1 : Int64) (a4 : Addr) (k7 : Cell) (h0 : Heap) (n0 : Nat) (v : Option Value) (h : Heap) (L : List Loc) : Prop := ∃ o11 : Addr, v = some (.ref o11) ∧ Fr n0 L ∧ h = h0 ∧ Exa Z Z.heap o11 "java/lang/Long"
set_option maxRecDepth 65536 in
set_option maxHeartbeats 40000000 in
theorem rm6_2 (l : Launch) (Z : State) (a0 : Array Value) (hw : ∀ d ∈ tables_1, d.before a0 Z = true) (ws : List Jvm.Cond) (q1 : Int64) (a4 : Addr) (k7 : Cell) (h0 : Heap) (n0 : Nat) (O0 : Old Z n0 h0) (hc2 : ¬ ((lcmpW q1 (-128 : Int64)) < (0 : Int32))) (hc3 : ¬ ((0 : Int32) < (lcmpW q1 (127 : Int64)))) (S_5 : Sta Z Z.heap "java/lang/Long$LongCache" "cache" "[Ljava/lang/Long;" (.ref a4)) (B_8 : Bxs Z a4 k7 "java/lang/Long" "J" (256 : Int32) (fun j => .long (j - 128).toInt64)) (hc9 : ¬ (((q1.toInt32) + (128 : Int32)) < (0 : Int32))) (hc10 : ((q1.toInt32) + (128 : Int32)) < (256 : Int32)) :
    MetFree l (⟨"java/lang/Long", "valueOf", "(J)Ljava/lang/Long;"⟩ : MethodName) (head1 (Jvm.Cond.code (⟨"java/lang/Long", "valueOf", "(J)Ljava/lang/Long;"⟩ : MethodName) jdk_35_method_24_code 3 (some (.object "java/lang/Long")) :: ws) ({ frames := 0, cells := 0, slots := 0, locals := 0 } : Room)) (fun a U => a = #[(.long q1)] ∧ Z.Warmed39 U.vm ∧ U.heap = h0) (fun _ _ _ _ _ => True) (fun _ U o U' => ∃ v L, o = .returned v ∧ Qrm6_2 Z q1 a4 k7 h0 n0 v U'.heap L ∧ FrameEnd U o U' L ({ frames := 0, cells := 0, slots := 0, locals := 0 } : Room).cells ({ frames := 0, cells := 0, slots := 0, locals := 0 } : Room).slots) := by
  refine MetFree.of_bodySF (plainFor_of_name pn_7) hisR ?_
  intro p e s m args below meth c s₁ Bd hml0 hP hK
  obtain ⟨rfl, hZ, hh⟩ := hP
  have hx := Bd.exec
  have hby := Bd.bytes
  have hml : c.maxLocals = 3 := hml0
  have hown : s.vm.findClass "java/lang/Long" = some m.cls := findClass_of_methodNamed Bd.named
  have hnm := (name_of_methodNamed Bd.named Bd.method).1
  have X0 : Stand p l e ({ frames := 0, cells := 0, slots := 0, locals := 0 } : Room) s m #[(.long q1)] below meth c s₁ [] 0 0 := Stand.of_body Bd
  have e0 : s₁.heap = h0 := by rw [← hh, Bd.state]; rfl
  have N0 := Fr.nil n0
  have pre0 : ∀ t, Steps p.tables e below (s₁.setTop (mkF m 0 #[.val (.long q1), .second, .unset] [])) t → Steps p.tables e below (s₁.setTop (entryFrame m #[(.long q1)] 3)) t := fun t k => castTop (ef_6_J m q1) k
  obtain ⟨T6, X6, e6, st6⟩ := getS2 X0 hx hZ hown (host := "") (Or.inl (hw _ (List.mem_of_getElem? (i := 34) rfl))) Via.refl e0 (S_5.ext O0.2) (g := (mkF m 20 #[.val (.long q1), .second, .val (.int (128 : Int32))] [])) rfl (hb hby d6_20)
  obtain ⟨Ar11, S11, M11, Hb11⟩ := id B_8
  have hin11 : ¬ (((q1.toInt32) + (128 : Int32)) < 0 ∨ k7.slots.size ≤ (((q1.toInt32) + (128 : Int32))).toNatClampNeg) := inb_of S11 ⟨hc9, hc10⟩
  obtain ⟨o11, hat11, Eo11, Fo11⟩ := Hb11 _ hin11
  obtain ⟨fs, hr, hrun, hended, hW, hsame⟩ := X6.leave (v := some (.ref o11)) (fun h => by rw [Bd.returns] at h; cases h)
  refine ⟨_, _, pre0 _ ?_, hrun, hended, _, _, rfl, ?_, ⟨_, rfl⟩, hW, hsame.mono (by decide) (by decide)⟩
  · show Steps p.tables e below (s₁.setTop (mkF m 0 #[.val (.long q1), .second, .unset] [])) _
    refine XS.sipush X0.here hx rfl (hb hby d6_0) ?_
    show Steps p.tables e below (s₁.setTop (mkF m 3 #[.val (.long q1), .second, .unset] [(.int (128 : Int32))])) _
    refine XS.istoreN X0.here hx rfl (hb hby d6_3) rfl (l' := #[.val (.long q1), .second, .val (.int (128 : Int32))]) rfl ?_
    show Steps p.tables e below (s₁.setTop (mkF m 4 #[.val (.long q1), .second, .val (.int (128 : Int32))] [])) _
    refine XS.lloadN X0.here hx rfl (hb hby d6_4) rfl ?_
    show Steps p.tables e below (s₁.setTop (mkF m 5 #[.val (.long q1), .second, .val (.int (128 : Int32))] [(.long q1)])) _
    refine X0.ldc2Long hx hown (mvT hZ (hw _ (List.mem_of_getElem? (i := 32) rfl))) (g := (mkF m 5 #[.val (.long q1), .second, .val (.int (128 : Int32))] [(.long q1)])) rfl (hb hby d6_5) _ ?_
    show Steps p.tables e below (s₁.setTop (mkF m 8 #[.val (.long q1), .second, .val (.int (128 : Int32))] [(.long (-128 : Int64)), (.long q1)])) _
    refine XS.lcmp X0.here hx rfl (hb hby d6_8) rfl ?_
    show Steps p.tables e below (s₁.setTop (mkF m 9 #[.val (.long q1), .second, .val (.int (128 : Int32))] [(.int (lcmpW q1 (-128 : Int64)))])) _
    refine XS.ifNo X0.here hx rfl (hb hby d6_9) rfl ((if0 _ _).trans (flt (hc2 : ¬ ((lcmpW q1 (-128 : Int64)) < (0 : Int32)))).1) ?_
    show Steps p.tables e below (s₁.setTop (mkF m 12 #[.val (.long q1), .second, .val (.int (128 : Int32))] [])) _
    refine XS.lloadN X0.here hx rfl (hb hby d6_12) rfl ?_
    show Steps p.tables e below (s₁.setTop (mkF m 13 #[.val (.long q1), .second, .val (.int (128 : Int32))] [(.long q1)])) _
    refine X0.ldc2Long hx hown (mvT hZ (hw _ (List.mem_of_getElem? (i := 33) rfl))) (g := (mkF m 13 #[.val (.long q1), .second, .val (.int (128 : Int32))] [(.long q1)])) rfl (hb hby d6_13) _ ?_
    show Steps p.tables e below (s₁.setTop (mkF m 16 #[.val (.long q1), .second, .val (.int (128 : Int32))] [(.long (127 : Int64)), (.long q1)])) _
    refine XS.lcmp X0.here hx rfl (hb hby d6_16) rfl ?_
    show Steps p.tables e below (s₁.setTop (mkF m 17 #[.val (.long q1), .second, .val (.int (128 : Int32))] [(.int (lcmpW q1 (127 : Int64)))])) _
    refine XS.ifNo X0.here hx rfl (hb hby d6_17) rfl ((if0 _ _).trans (flt (hc3 : ¬ ((0 : Int32) < (lcmpW q1 (127 : Int64))))).2.2.1) ?_
    show Steps p.tables e below (s₁.setTop (mkF m 20 #[.val (.long q1), .second, .val (.int (128 : Int32))] [])) _
    refine st6 _ ?_
    show Steps p.tables e below (T6.setTop (mkF m 23 #[.val (.long q1), .second, .val (.int (128 : Int32))] [(.ref a4)])) _
    refine XS.lloadN X6.here hx rfl (hb hby d6_23) rfl ?_
    show Steps p.tables e below (T6.setTop (mkF m 24 #[.val (.long q1), .second, .val (.int (128 : Int32))] [(.long q1), (.ref a4)])) _
    refine XS.l2i X6.here hx rfl (hb hby d6_24) rfl ?_
    show Steps p.tables e below (T6.setTop (mkF m 25 #[.val (.long q1), .second, .val (.int (128 : Int32))] [(.int (q1.toInt32)), (.ref a4)])) _
    refine XS.sipush X6.here hx rfl (hb hby d6_25) ?_
    show Steps p.tables e below (T6.setTop (mkF m 28 #[.val (.long q1), .second, .val (.int (128 : Int32))] [(.int (128 : Int32)), (.int (q1.toInt32)), (.ref a4)])) _
    refine XS.iadd X6.here hx rfl (hb hby d6_28) rfl ?_
    show Steps p.tables e below (T6.setTop (mkF m 29 #[.val (.long q1), .second, .val (.int (128 : Int32))] [(.int ((q1.toInt32) + (128 : Int32))), (.ref a4)])) _
    refine X6.aaload hx (j := ((q1.toInt32) + (128 : Int32))) (v := (.ref o11)) (by rw [e6]; exact (Ar11.ext O0.2).1) (State.isArrayOf_alike hZ.alike Ar11.2.1) rfl Ar11.2.2 hin11 hat11 (g := (mkF m 29 #[.val (.long q1), .second, .val (.int (128 : Int32))] [(.int ((q1.toInt32) + (128 : Int32))), (.ref a4)])) rfl rfl (hb hby d6_29) _ ?_
    show Steps p.tables e below (T6.setTop (mkF m 30 #[.val (.long q1), .second, .val (.int (128 : Int32))] [(.ref o11)])) _
    jvm_step X6.here [X6.here.top, hx, (hb hby d6_30), X6.method', Bd.returns, Value.isRef, FieldType.isReference]
    first | (intro acts; rw [hr _ acts rfl rfl rfl]) | rw [hr _ _ rfl rfl rfl]
    exact Steps.refl _
  · show Qrm6_2 Z q1 a4 k7 h0 n0 _ T6.heap _
    rw [e6]
    exact ⟨o11, rfl, N0, rfl, Eo11⟩
def Qrm5_4 (Z : State) (a1 : Addr) (a2 : Addr) (h0 : Heap) (n0 : Nat) (v : Option Value) (h : Heap) (L : List Loc) : Prop := v = some (.int (0 : Int32)) ∧ Fr n0 L ∧ h = h0
set_option maxRecDepth 65536 in
set_option maxHeartbeats 40000000 in
theorem rm5_4 (l : Launch) (Z : State) (a0 : Array Value) (hw : ∀ d ∈ tables_1, d.before a0 Z = true) (ws : List Jvm.Cond) (a1 : Addr) (a2 : Addr) (h0 : Heap) (n0 : Nat) (O0 : Old Z n0 h0) (E_3 : Exa Z Z.heap a2 "java/lang/Long") :
    MetFree l (⟨"com/example/drowsy_thunk/drowsythunk/eval/IntValue", "equals", "(Ljava/lang/Object;)Z"⟩ : MethodName) (head1 (Jvm.Cond.code (⟨"com/example/drowsy_thunk/drowsythunk/eval/IntValue", "equals", "(Ljava/lang/Object;)Z"⟩ : MethodName) prog_87_method_4_code 3 (some .boolean) :: ws) ({ frames := 0, cells := 0, slots := 0, locals := 0 } : Room)) (fun a U => a = #[(.ref a1), (.ref a2)] ∧ Z.Warmed39 U.vm ∧ U.heap = h0) (fun _ _ _ _ _ => True) (fun _ U o U' => ∃ v L, o = .returned v ∧ Qrm5_4 Z a1 a2 h0 n0 v U'.heap L ∧ FrameEnd U o U' L ({ frames := 0, cells := 0, slots := 0, locals := 0 } : Room).cells ({ frames := 0, cells := 0, slots := 0, locals := 0 } : Room).slots) := by
  refine MetFree.of_bodySF (plainFor_of_name pn_3) hisR ?_
  intro p e s m args below meth c s₁ Bd hml0 hP hK
  obtain ⟨rfl, hZ, hh⟩ := hP
  have hx := Bd.exec
  have hby := Bd.bytes
  have hml : c.maxLocals = 3 := hml0
  have hown : s.vm.findClass "com/example/drowsy_thunk/drowsythunk/eval/IntValue" = some m.cls := findClass_of_methodNamed Bd.named
  have hnm := (name_of_methodNamed Bd.named Bd.method).1
  have X0 : Stand p l e ({ frames := 0, cells := 0, slots := 0, locals := 0 } : Room) s m #[(.ref a1), (.ref a2)] below meth c s₁ [] 0 0 := Stand.of_body Bd
  have e0 : s₁.heap = h0 := by rw [← hh, Bd.state]; rfl
  have N0 := Fr.nil n0
  have pre0 : ∀ t, Steps p.tables e below (s₁.setTop (mkF m 0 #[.val (.ref a1), .val (.ref a2), .unset] [])) t → Steps p.tables e below (s₁.setTop (entryFrame m #[(.ref a1), (.ref a2)] 3)) t := fun t k => castTop (ef_5_RR m a1 a2) k
  obtain ⟨T4, X4, e4, st4⟩ := instNo X0 hx hZ hown (hw _ (List.mem_of_getElem? (i := 26) rfl)) e0 (E_3.ext O0.2) (own_NSno (hw _ (List.mem_of_getElem? (i := 36) rfl)) (hw _ (List.mem_of_getElem? (i := 1) rfl)) (NS.step (hw _ (List.mem_of_getElem? (i := 36) rfl)) (NS.step (hw _ (List.mem_of_getElem? (i := 37) rfl)) (own_NSroot (hw _ (List.mem_of_getElem? (i := 38) rfl)) (hw _ (List.mem_of_getElem? (i := 1) rfl)) (by decide)) (by decide)) (by decide)) (by decide)) (g := (mkF m 1 #[.val (.ref a1), .val (.ref a2), .unset] [(.ref a2)])) rfl rfl (hb hby d5_1)
  obtain ⟨fs, hr, hrun, hended, hW, hsame⟩ := X4.leave (v := some (.int (0 : Int32))) (fun h => by rw [Bd.returns] at h; cases h)
  refine ⟨_, _, pre0 _ ?_, hrun, hended, _, _, rfl, ?_, ⟨_, rfl⟩, hW, hsame.mono (by decide) (by decide)⟩
  · show Steps p.tables e below (s₁.setTop (mkF m 0 #[.val (.ref a1), .val (.ref a2), .unset] [])) _
    refine XS.aloadN X0.here hx rfl (hb hby d5_0) rfl rfl ?_
    show Steps p.tables e below (s₁.setTop (mkF m 1 #[.val (.ref a1), .val (.ref a2), .unset] [(.ref a2)])) _
    refine st4 _ ?_
    show Steps p.tables e below (T4.setTop (mkF m 4 #[.val (.ref a1), .val (.ref a2), .unset] [(.int (0 : Int32))])) _
    refine XS.ifYes X4.here hx rfl (pc0 := 4) (pc' := 28) rfl (hb hby d5_4) rfl ((if0 _ _).trans (teq ((by decide) : (0 : Int32) = (0 : Int32))).1) (by decide) (by decide) ?_
    show Steps p.tables e below (T4.setTop (mkF m 28 #[.val (.ref a1), .val (.ref a2), .unset] [])) _
    refine XS.iconst X4.here hx rfl (hb hby d5_28) ?_
    show Steps p.tables e below (T4.setTop (mkF m 29 #[.val (.ref a1), .val (.ref a2), .unset] [(.int (0 : Int32))])) _
    exact retN X4 hx (t := .boolean) Bd.returns (by simp) (hb hby d5_29) hr
  · show Qrm5_4 Z a1 a2 h0 n0 _ T4.heap _
    rw [e4]
    exact ⟨rfl, N0, rfl⟩
theorem ef_0_JJI (m : MethodId) (x0 : Int64) (x1 : Int64) (x2 : Int32) : entryFrame m #[(.long x0), (.long x1), (.int x2)] maxLocals = mkF m 0 #[.val (.long x0), .second, .val (.long x1), .second, .val (.int x2), .unset, .unset, .unset, .unset] [] := by first | (simp [entryFrame, mkF, argsToLocals, Value.category, maxLocals]; done) | rfl
theorem pn_9 : plainName "com/example/drowsy_thunk/drowsythunk/eval/IntValueEqualsPinLaw" = true := by first | (simp [plainName, overriddenIn]; done) | decide +kernel
def Qrm0 (Z : State) (q1 : Int64) (q2 : Int64) (p3 : Int32) (w4 : Addr) (cl5 : Cell) (h0 : Heap) (n0 : Nat) (v : Option Value) (h : Heap) (L : List Loc) : Prop := v = some (.int (1 : Int32)) ∧ Fr n0 L
set_option maxRecDepth 65536 in
set_option maxHeartbeats 40000000 in
theorem rm0 (l : Launch) (Z : State) (a0 : Array Value) (hw : ∀ d ∈ tables_1, d.before a0 Z = true) (ws : List Jvm.Cond) (q1 : Int64) (q2 : Int64) (p3 : Int32) (w4 : Addr) (cl5 : Cell) (h0 : Heap) (n0 : Nat) (O0 : Old Z n0 h0) (S_c : Sta Z Z.heap "java/lang/Long$LongCache" "cache" "[Ljava/lang/Long;" (.ref w4)) (B_c : Bxs Z w4 cl5 "java/lang/Long" "J" (256 : Int32) (fun j => .long (j - 128).toInt64)) :
    MetFree l x (head1 (Jvm.Cond.code x code maxLocals ret :: ws) room_1) (fun a U => a = #[(.long q1), (.long q2), (.int p3)] ∧ Z.Warmed39 U.vm ∧ U.heap = h0) (fun _ _ _ _ _ => True) (fun _ U o U' => ∃ v L, o = .returned v ∧ Qrm0 Z q1 q2 p3 w4 cl5 h0 n0 v U'.heap L ∧ FrameEnd U o U' L room_1.cells room_1.slots) := by
  refine MetFree.of_bodySF (plainFor_of_name pn_9) hisR ?_
  intro p e s m args below meth c s₁ Bd hml0 hP hK
  obtain ⟨rfl, hZ, hh⟩ := hP
  have hx := Bd.exec
  have hby := Bd.bytes
  have hml : c.maxLocals = 9 := hml0
  have hown : s.vm.findClass "com/example/drowsy_thunk/drowsythunk/eval/IntValueEqualsPinLaw" = some m.cls := findClass_of_methodNamed Bd.named
  have hnm := (name_of_methodNamed Bd.named Bd.method).1
  have X0 : Stand p l e room_1 s m #[(.long q1), (.long q2), (.int p3)] below meth c s₁ [] 0 0 := Stand.of_body Bd
  have e0 : s₁.heap = h0 := by rw [← hh, Bd.state]; rfl
  have N0 := Fr.nil n0
  have pre0 : ∀ t, Steps p.tables e below (s₁.setTop (mkF m 0 #[.val (.long q1), .second, .val (.long q2), .second, .val (.int p3), .unset, .unset, .unset, .unset] [])) t → Steps p.tables e below (s₁.setTop (entryFrame m #[(.long q1), (.long q2), (.int p3)] maxLocals)) t := fun t k => castTop (ef_0_JJI m q1 q2 p3) k
  obtain ⟨T6, h6, X6, e6, E6, A6, D6, U6, st6⟩ := newO X0 hx hZ hown (hw _ (List.mem_of_getElem? (i := 0) rfl)) (hw _ (List.mem_of_getElem? (i := 1) rfl)) (hw _ (List.mem_of_getElem? (i := 2) rfl)) e0 (g := (mkF m 0 #[.val (.long q1), .second, .val (.long q2), .second, .val (.int p3), .unset, .unset, .unset, .unset] [])) rfl (hb hby at_0) (by decide) (by decide)
  obtain ⟨b6, g6⟩ : ∃ z, z = h0.size := ⟨_, rfl⟩
  rw [← g6] at A6 D6 U6 st6
  have g_b6 : n0 ≤ b6 := own_born O0 (own_eqle g6)
  have sz_b6 : h0.size ≤ b6 := Nat.le_trans (Keep.refl h0 []).1 (own_eqle g6)
  have K6 : Keep h0 h6 [] := (Keep.refl h0 []).ext E6
  have O6 : Old Z n0 h6 := O0.ext E6
  have F6_value : Fld Z h6 b6 "com/example/drowsy_thunk/drowsythunk/eval/IntValue" "value" "J" (.long (0 : Int64)) := D6 (Or.inr (hw _ (List.mem_of_getElem? (i := 20) rfl))) (ty := .long) (by decide)
  obtain ⟨_, _, ⟨T7, L7, k7, n7⟩, -, X7, ⟨Lc7, hQ7, l7, y7, z7⟩, st7⟩ := X6.specialBack hx (y := (⟨"com/example/drowsy_thunk/drowsythunk/eval/IntValue", "<init>", "(J)V"⟩ : MethodName)) rfl hown (mvT hZ (hw _ (List.mem_of_getElem? (i := 3) rfl))) (mvT hZ (hw _ (List.mem_of_getElem? (i := 4) rfl))) (mvT hZ (hw _ (List.mem_of_getElem? (i := 5) rfl))) (by decide) (backOf (W := 1) (rm1 l Z a0 hw [] b6 q1 h6 n0 O6 A6 F6_value g_b6) hZ (hw _ (List.mem_of_getElem? (i := 5) rfl)) (hw _ (List.mem_of_getElem? (i := 2) rfl)) (by decide) (by decide)) (g := (mkF m 5 #[.val (.long q1), .second, .val (.long q2), .second, .val (.int p3), .unset, .unset, .unset, .unset] [(.long q1), (.ref b6), (.ref b6)])) rfl (by rw [hml]; rfl) (Steps.refl _) (a := b6) (argsL := [(.long q1)]) (rest := [(.ref b6)]) (lenOf pd_4 rfl) rfl (by show 2 * 0 + _ ≤ _; exact Nat.le_of_eq rfl) (hb hby at_5) (fun _ _ => ⟨rfl, e6, (by decide : 1 + 0 ≤ _), (by decide : 1 + 0 ≤ _)⟩)
  dsimp only [Pt.U, Pt.locs, Pt.cells, Pt.slots] at X7 l7 y7 z7 st7 hQ7
  subst l7 y7 z7
  obtain ⟨rfl, Nq7, K7, P7_0, P7_1⟩ := hQ7
  have N7 := Fr.app N0 Nq7
  have KK7 : Keep h0 T7.heap [] := Keep.trans (h := h6) K6 K7 (allS (Or.inr sz_b6) all0)
  have O7 : Old Z n0 T7.heap := O6.keep K7 (allS g_b6 all0)
  have pre8 : ∀ t, Steps p.tables e below (T7.setTop (mkF m 16 #[.val (.long q1), .second, .val (.long q2), .second, .val (.int p3), .val (.ref b6), .val (.int (p3 &&& (3 : Int32))), .unset, .unset] [])) t → Steps p.tables e below (s₁.setTop (entryFrame m #[(.long q1), (.long q2), (.int p3)] maxLocals)) t := fun t kt => pre0 t (by
    show Steps p.tables e below (s₁.setTop (mkF m 0 #[.val (.long q1), .second, .val (.long q2), .second, .val (.int p3), .unset, .unset, .unset, .unset] [])) _
    refine st6 _ ?_
    show Steps p.tables e below (T6.setTop (mkF m 3 #[.val (.long q1), .second, .val (.long q2), .second, .val (.int p3), .unset, .unset, .unset, .unset] [(.ref b6)])) _
    refine XS.dup X6.here hx rfl (hb hby at_3) rfl rfl ?_
    show Steps p.tables e below (T6.setTop (mkF m 4 #[.val (.long q1), .second, .val (.long q2), .second, .val (.int p3), .unset, .unset, .unset, .unset] [(.ref b6), (.ref b6)])) _
    refine XS.lloadN X6.here hx rfl (hb hby at_4) rfl ?_
    show Steps p.tables e below (T6.setTop (mkF m 5 #[.val (.long q1), .second, .val (.long q2), .second, .val (.int p3), .unset, .unset, .unset, .unset] [(.long q1), (.ref b6), (.ref b6)])) _
    refine st7.trans ?_
    show Steps p.tables e below (T7.setTop (mkF m 8 #[.val (.long q1), .second, .val (.long q2), .second, .val (.int p3), .unset, .unset, .unset, .unset] [(.ref b6)])) _
    refine XS.astore X7.here hx rfl (hb hby at_8) rfl rfl (l' := #[.val (.long q1), .second, .val (.long q2), .second, .val (.int p3), .val (.ref b6), .unset, .unset, .unset]) rfl ?_
    show Steps p.tables e below (T7.setTop (mkF m 10 #[.val (.long q1), .second, .val (.long q2), .second, .val (.int p3), .val (.ref b6), .unset, .unset, .unset] [])) _
    refine XS.iload X7.here hx rfl (hb hby at_10) rfl ?_
    show Steps p.tables e below (T7.setTop (mkF m 12 #[.val (.long q1), .second, .val (.long q2), .second, .val (.int p3), .val (.ref b6), .unset, .unset, .unset] [(.int p3)])) _
    refine XS.iconst X7.here hx rfl (hb hby at_12) ?_
    show Steps p.tables e below (T7.setTop (mkF m 13 #[.val (.long q1), .second, .val (.long q2), .second, .val (.int p3), .val (.ref b6), .unset, .unset, .unset] [(.int (3 : Int32)), (.int p3)])) _
    refine XS.iand X7.here hx rfl (hb hby at_13) rfl ?_
    show Steps p.tables e below (T7.setTop (mkF m 14 #[.val (.long q1), .second, .val (.long q2), .second, .val (.int p3), .val (.ref b6), .unset, .unset, .unset] [(.int (p3 &&& (3 : Int32)))])) _
    refine XS.istore X7.here hx rfl (hb hby at_14) rfl (l' := #[.val (.long q1), .second, .val (.long q2), .second, .val (.int p3), .val (.ref b6), .val (.int (p3 &&& (3 : Int32))), .unset, .unset]) rfl ?_
    exact kt)
  rcases own_and3 p3 with hk | hk | hk | hk
  · obtain ⟨T9, h9, X9, e9, E9, A9, D9, U9, st9⟩ := newO X7 hx hZ hown (hw _ (List.mem_of_getElem? (i := 0) rfl)) (hw _ (List.mem_of_getElem? (i := 1) rfl)) (hw _ (List.mem_of_getElem? (i := 2) rfl)) rfl (g := (mkF m 21 #[.val (.long q1), .second, .val (.long q2), .second, .val (.int p3), .val (.ref b6), .val (.int (0 : Int32)), .unset, .unset] [])) rfl (hb hby at_21) (by decide) (by decide)
    obtain ⟨b9, g9⟩ : ∃ z, z = T7.heap.size := ⟨_, rfl⟩
    rw [← g9] at A9 D9 U9 st9
    have ne10 : b6 ≠ b9 := (own_ltn P7_0.lt (own_eqle g9))
    have g_b9 : n0 ≤ b9 := own_born O7 (own_eqle g9)
    have sz_b9 : h0.size ≤ b9 := Nat.le_trans KK7.1 (own_eqle g9)
    have K9 : Keep h0 h9 [] := KK7.ext E9
    have O9 : Old Z n0 h9 := O7.ext E9
    have F9_value : Fld Z h9 b9 "com/example/drowsy_thunk/drowsythunk/eval/IntValue" "value" "J" (.long (0 : Int64)) := D9 (Or.inr (hw _ (List.mem_of_getElem? (i := 20) rfl))) (ty := .long) (by decide)
    obtain ⟨_, _, ⟨T11, L11, k11, n11⟩, -, X11, ⟨Lc11, hQ11, l11, y11, z11⟩, st11⟩ := X9.specialBack hx (y := (⟨"com/example/drowsy_thunk/drowsythunk/eval/IntValue", "<init>", "(J)V"⟩ : MethodName)) rfl hown (mvT hZ (hw _ (List.mem_of_getElem? (i := 3) rfl))) (mvT hZ (hw _ (List.mem_of_getElem? (i := 4) rfl))) (mvT hZ (hw _ (List.mem_of_getElem? (i := 5) rfl))) (by decide) (backOf (W := 1) (rm1 l Z a0 hw [] b9 q2 h9 n0 O9 A9 F9_value g_b9) hZ (hw _ (List.mem_of_getElem? (i := 5) rfl)) (hw _ (List.mem_of_getElem? (i := 2) rfl)) (by decide) (by decide)) (g := (mkF m 26 #[.val (.long q1), .second, .val (.long q2), .second, .val (.int p3), .val (.ref b6), .val (.int (0 : Int32)), .unset, .unset] [(.long q2), (.ref b9), (.ref b9)])) rfl (by rw [hml]; rfl) (Steps.refl _) (a := b9) (argsL := [(.long q2)]) (rest := [(.ref b9)]) (lenOf pd_4 rfl) rfl (by show 2 * 0 + _ ≤ _; exact Nat.le_of_eq rfl) (hb hby at_26) (fun _ _ => ⟨rfl, e9, (by decide : 2 + 0 ≤ _), (by decide : 2 + 0 ≤ _)⟩)
    dsimp only [Pt.U, Pt.locs, Pt.cells, Pt.slots] at X11 l11 y11 z11 st11 hQ11
    subst l11 y11 z11
    obtain ⟨rfl, Nq11, K11, P11_0, P11_1⟩ := hQ11
    have N11 := Fr.app N7 Nq11
    have KK11 : Keep h0 T11.heap [] := Keep.trans (h := h9) K9 K11 (allS (Or.inr sz_b9) all0)
    have O11 : Old Z n0 T11.heap := O9.keep K11 (allS g_b9 all0)
    have pre12 : ∀ t, Steps p.tables e below (T11.setTop (mkF m 34 #[.val (.long q1), .second, .val (.long q2), .second, .val (.int p3), .val (.ref b6), .val (.int (0 : Int32)), .val (.ref b9), .unset] [(.int (lcmpW q1 q2))])) t → Steps p.tables e below (s₁.setTop (entryFrame m #[(.long q1), (.long q2), (.int p3)] maxLocals)) t := fun t kt => pre8 t (by
      show Steps p.tables e below (T7.setTop (mkF m 16 #[.val (.long q1), .second, .val (.long q2), .second, .val (.int p3), .val (.ref b6), .val (.int (p3 &&& (3 : Int32))), .unset, .unset] [])) _
      rw [hk]
      show Steps p.tables e below (T7.setTop (mkF m 16 #[.val (.long q1), .second, .val (.long q2), .second, .val (.int p3), .val (.ref b6), .val (.int (0 : Int32)), .unset, .unset] [])) _
      refine XS.iload X7.here hx rfl (hb hby at_16) rfl ?_
      show Steps p.tables e below (T7.setTop (mkF m 18 #[.val (.long q1), .second, .val (.long q2), .second, .val (.int p3), .val (.ref b6), .val (.int (0 : Int32)), .unset, .unset] [(.int (0 : Int32))])) _
      refine XS.ifNo X7.here hx rfl (hb hby at_18) rfl ((if0 _ _).trans (teq ((by decide) : (0 : Int32) = (0 : Int32))).2) ?_
      show Steps p.tables e below (T7.setTop (mkF m 21 #[.val (.long q1), .second, .val (.long q2), .second, .val (.int p3), .val (.ref b6), .val (.int (0 : Int32)), .unset, .unset] [])) _
      refine st9 _ ?_
      show Steps p.tables e below (T9.setTop (mkF m 24 #[.val (.long q1), .second, .val (.long q2), .second, .val (.int p3), .val (.ref b6), .val (.int (0 : Int32)), .unset, .unset] [(.ref b9)])) _
      refine XS.dup X9.here hx rfl (hb hby at_24) rfl rfl ?_
      show Steps p.tables e below (T9.setTop (mkF m 25 #[.val (.long q1), .second, .val (.long q2), .second, .val (.int p3), .val (.ref b6), .val (.int (0 : Int32)), .unset, .unset] [(.ref b9), (.ref b9)])) _
      refine XS.lloadN X9.here hx rfl (hb hby at_25) rfl ?_
      show Steps p.tables e below (T9.setTop (mkF m 26 #[.val (.long q1), .second, .val (.long q2), .second, .val (.int p3), .val (.ref b6), .val (.int (0 : Int32)), .unset, .unset] [(.long q2), (.ref b9), (.ref b9)])) _
      refine st11.trans ?_
      show Steps p.tables e below (T11.setTop (mkF m 29 #[.val (.long q1), .second, .val (.long q2), .second, .val (.int p3), .val (.ref b6), .val (.int (0 : Int32)), .unset, .unset] [(.ref b9)])) _
      refine XS.astore X11.here hx rfl (hb hby at_29) rfl rfl (l' := #[.val (.long q1), .second, .val (.long q2), .second, .val (.int p3), .val (.ref b6), .val (.int (0 : Int32)), .val (.ref b9), .unset]) rfl ?_
      show Steps p.tables e below (T11.setTop (mkF m 31 #[.val (.long q1), .second, .val (.long q2), .second, .val (.int p3), .val (.ref b6), .val (.int (0 : Int32)), .val (.ref b9), .unset] [])) _
      refine XS.lloadN X11.here hx rfl (hb hby at_31) rfl ?_
      show Steps p.tables e below (T11.setTop (mkF m 32 #[.val (.long q1), .second, .val (.long q2), .second, .val (.int p3), .val (.ref b6), .val (.int (0 : Int32)), .val (.ref b9), .unset] [(.long q1)])) _
      refine XS.lloadN X11.here hx rfl (hb hby at_32) rfl ?_
      show Steps p.tables e below (T11.setTop (mkF m 33 #[.val (.long q1), .second, .val (.long q2), .second, .val (.int p3), .val (.ref b6), .val (.int (0 : Int32)), .val (.ref b9), .unset] [(.long q2), (.long q1)])) _
      refine XS.lcmp X11.here hx rfl (hb hby at_33) rfl ?_
      exact kt)
    by_cases hc : (lcmpW q1 q2) = (0 : Int32)
    · have f13 : Fld Z T11.heap b6 "com/example/drowsy_thunk/drowsythunk/eval/IntValue" "value" "J" (.long q1) := ((P7_1.ext E9).keep K11 (ninS ne10 nin0))
      have f15 : Exa Z T11.heap b6 "com/example/drowsy_thunk/drowsythunk/eval/IntValue" := ((P7_0.ext E9).keep K11)
      obtain ⟨cq14, kq14, q14a, q14b, q14c⟩ := isOf hZ rfl f15
      obtain ⟨_, _, ⟨T14, L14, k14, n14⟩, -, X14, ⟨Lc14, hQ14, l14, y14, z14⟩, st14⟩ := X11.virtualBack hx (y := (⟨"com/example/drowsy_thunk/drowsythunk/eval/IntValue", "equals", "(Ljava/lang/Object;)Z"⟩ : MethodName)) (z := (⟨"com/example/drowsy_thunk/drowsythunk/eval/IntValue", "equals", "(Ljava/lang/Object;)Z"⟩ : MethodName)) hown (mvT hZ (hw _ (List.mem_of_getElem? (i := 21) rfl))) (mvT hZ (hw _ (List.mem_of_getElem? (i := 22) rfl))) (notFace_of_selects (args := #[]) (mvT hZ (hw _ (List.mem_of_getElem? (i := 24) rfl)))) (mvT hZ (hw _ (List.mem_of_getElem? (i := 24) rfl))) (mvT hZ (hw _ (List.mem_of_getElem? (i := 23) rfl))) (by decide) (backOf (W := 0) (rm5 l Z a0 hw [] b6 b9 q1 q2 T11.heap n0 O11 P11_0 f13 P11_1 hc) hZ (hw _ (List.mem_of_getElem? (i := 25) rfl)) (hw _ (List.mem_of_getElem? (i := 2) rfl)) (by decide) (by decide)) q14a q14c (g := (mkF m 97 #[.val (.long q1), .second, .val (.long q2), .second, .val (.int p3), .val (.ref b6), .val (.int (0 : Int32)), .val (.ref b9), .val (.int (1 : Int32))] [(.ref b9), (.ref b6)])) rfl (by rw [hml]; rfl) (Steps.refl _) (argsL := [(.ref b9)]) (rest := []) (lenOf pd_5 rfl) rfl (by show 2 * 0 + _ ≤ _; exact Nat.le_of_eq rfl) (hb hby at_97) (fun _ _ => ⟨rfl, rfl, (by decide : 2 + 0 ≤ _), (by decide : 2 + 0 ≤ _)⟩)
      dsimp only [Pt.U, Pt.locs, Pt.cells, Pt.slots] at X14 l14 y14 z14 st14 hQ14
      subst l14 y14 z14
      obtain ⟨rfl, Nq14, e14⟩ := hQ14
      have N14 := Fr.app N11 Nq14
      obtain ⟨cq16, kq16, q16a, q16b, q16c⟩ := isOf hZ e14 f15
      obtain ⟨_, _, ⟨T16, L16, k16, n16⟩, -, X16, ⟨Lc16, hQ16, l16, y16, z16⟩, st16⟩ := X14.virtualBack hx (y := (⟨"com/example/drowsy_thunk/drowsythunk/eval/IntValue", "equals", "(Ljava/lang/Object;)Z"⟩ : MethodName)) (z := (⟨"com/example/drowsy_thunk/drowsythunk/eval/IntValue", "equals", "(Ljava/lang/Object;)Z"⟩ : MethodName)) hown (mvT hZ (hw _ (List.mem_of_getElem? (i := 21) rfl))) (mvT hZ (hw _ (List.mem_of_getElem? (i := 22) rfl))) (notFace_of_selects (args := #[]) (mvT hZ (hw _ (List.mem_of_getElem? (i := 24) rfl)))) (mvT hZ (hw _ (List.mem_of_getElem? (i := 24) rfl))) (mvT hZ (hw _ (List.mem_of_getElem? (i := 23) rfl))) (by decide) (backOf (W := 0) (rm5 l Z a0 hw [] b6 b6 q1 q1 T11.heap n0 O11 f15 f13 f13 ((lw_eq _ _).mpr rfl)) hZ (hw _ (List.mem_of_getElem? (i := 25) rfl)) (hw _ (List.mem_of_getElem? (i := 2) rfl)) (by decide) (by decide)) q16a q16c (g := (mkF m 109 #[.val (.long q1), .second, .val (.long q2), .second, .val (.int p3), .val (.ref b6), .val (.int (0 : Int32)), .val (.ref b9), .val (.int (1 : Int32))] [(.ref b6), (.ref b6)])) rfl (by rw [hml]; rfl) (Steps.refl _) (argsL := [(.ref b6)]) (rest := []) (lenOf pd_5 rfl) rfl (by show 2 * 0 + _ ≤ _; exact Nat.le_of_eq rfl) (hb hby at_109) (fun _ _ => ⟨rfl, e14, (by decide : 2 + 0 ≤ _), (by decide : 2 + 0 ≤ _)⟩)
      dsimp only [Pt.U, Pt.locs, Pt.cells, Pt.slots] at X16 l16 y16 z16 st16 hQ16
      subst l16 y16 z16
      obtain ⟨rfl, Nq16, e16⟩ := hQ16
      have N16 := Fr.app N14 Nq16
      obtain ⟨fs, hr, hrun, hended, hW, hsame⟩ := X16.leave (v := some (.int (1 : Int32))) (fun h => by rw [Bd.returns] at h; cases h)
      refine ⟨_, _, pre12 _ ?_, hrun, hended, _, _, rfl, ?_, ⟨_, rfl⟩, hW, hsame.mono (by decide) (by decide)⟩
      · show Steps p.tables e below (T11.setTop (mkF m 34 #[.val (.long q1), .second, .val (.long q2), .second, .val (.int p3), .val (.ref b6), .val (.int (0 : Int32)), .val (.ref b9), .unset] [(.int (lcmpW q1 q2))])) _
        refine XS.ifNo X11.here hx rfl (hb hby at_34) rfl ((if0 _ _).trans (teq (hc : (lcmpW q1 q2) = (0 : Int32))).2) ?_
        show Steps p.tables e below (T11.setTop (mkF m 37 #[.val (.long q1), .second, .val (.long q2), .second, .val (.int p3), .val (.ref b6), .val (.int (0 : Int32)), .val (.ref b9), .unset] [])) _
        refine XS.iconst X11.here hx rfl (hb hby at_37) ?_
        show Steps p.tables e below (T11.setTop (mkF m 38 #[.val (.long q1), .second, .val (.long q2), .second, .val (.int p3), .val (.ref b6), .val (.int (0 : Int32)), .val (.ref b9), .unset] [(.int (1 : Int32))])) _
        refine XS.goto X11.here hx rfl (pc0 := 38) (pc' := 42) rfl (hb hby at_38) (by decide) (by decide) ?_
        show Steps p.tables e below (T11.setTop (mkF m 42 #[.val (.long q1), .second, .val (.long q2), .second, .val (.int p3), .val (.ref b6), .val (.int (0 : Int32)), .val (.ref b9), .unset] [(.int (1 : Int32))])) _
        refine XS.istore X11.here hx rfl (hb hby at_42) rfl (l' := #[.val (.long q1), .second, .val (.long q2), .second, .val (.int p3), .val (.ref b6), .val (.int (0 : Int32)), .val (.ref b9), .val (.int (1 : Int32))]) rfl ?_
        show Steps p.tables e below (T11.setTop (mkF m 44 #[.val (.long q1), .second, .val (.long q2), .second, .val (.int p3), .val (.ref b6), .val (.int (0 : Int32)), .val (.ref b9), .val (.int (1 : Int32))] [])) _
        refine XS.goto X11.here hx rfl (pc0 := 44) (pc' := 93) rfl (hb hby at_44) (by decide) (by decide) ?_
        show Steps p.tables e below (T11.setTop (mkF m 93 #[.val (.long q1), .second, .val (.long q2), .second, .val (.int p3), .val (.ref b6), .val (.int (0 : Int32)), .val (.ref b9), .val (.int (1 : Int32))] [])) _
        refine XS.aload X11.here hx rfl (hb hby at_93) rfl rfl ?_
        show Steps p.tables e below (T11.setTop (mkF m 95 #[.val (.long q1), .second, .val (.long q2), .second, .val (.int p3), .val (.ref b6), .val (.int (0 : Int32)), .val (.ref b9), .val (.int (1 : Int32))] [(.ref b6)])) _
        refine XS.aload X11.here hx rfl (hb hby at_95) rfl rfl ?_
        show Steps p.tables e below (T11.setTop (mkF m 97 #[.val (.long q1), .second, .val (.long q2), .second, .val (.int p3), .val (.ref b6), .val (.int (0 : Int32)), .val (.ref b9), .val (.int (1 : Int32))] [(.ref b9), (.ref b6)])) _
        refine st14.trans ?_
        show Steps p.tables e below (T14.setTop (mkF m 100 #[.val (.long q1), .second, .val (.long q2), .second, .val (.int p3), .val (.ref b6), .val (.int (0 : Int32)), .val (.ref b9), .val (.int (1 : Int32))] [(.int (1 : Int32))])) _
        refine XS.iload X14.here hx rfl (hb hby at_100) rfl ?_
        show Steps p.tables e below (T14.setTop (mkF m 102 #[.val (.long q1), .second, .val (.long q2), .second, .val (.int p3), .val (.ref b6), .val (.int (0 : Int32)), .val (.ref b9), .val (.int (1 : Int32))] [(.int (1 : Int32)), (.int (1 : Int32))])) _
        refine XS.icmpNo X14.here hx rfl (hb hby at_102) rfl (teq ((by decide) : (1 : Int32) = (1 : Int32))).2 ?_
        show Steps p.tables e below (T14.setTop (mkF m 105 #[.val (.long q1), .second, .val (.long q2), .second, .val (.int p3), .val (.ref b6), .val (.int (0 : Int32)), .val (.ref b9), .val (.int (1 : Int32))] [])) _
        refine XS.aload X14.here hx rfl (hb hby at_105) rfl rfl ?_
        show Steps p.tables e below (T14.setTop (mkF m 107 #[.val (.long q1), .second, .val (.long q2), .second, .val (.int p3), .val (.ref b6), .val (.int (0 : Int32)), .val (.ref b9), .val (.int (1 : Int32))] [(.ref b6)])) _
        refine XS.aload X14.here hx rfl (hb hby at_107) rfl rfl ?_
        show Steps p.tables e below (T14.setTop (mkF m 109 #[.val (.long q1), .second, .val (.long q2), .second, .val (.int p3), .val (.ref b6), .val (.int (0 : Int32)), .val (.ref b9), .val (.int (1 : Int32))] [(.ref b6), (.ref b6)])) _
        refine st16.trans ?_
        show Steps p.tables e below (T16.setTop (mkF m 112 #[.val (.long q1), .second, .val (.long q2), .second, .val (.int p3), .val (.ref b6), .val (.int (0 : Int32)), .val (.ref b9), .val (.int (1 : Int32))] [(.int (1 : Int32))])) _
        refine XS.ifNo X16.here hx rfl (hb hby at_112) rfl ((if0 _ _).trans (feq ((by decide) : ¬ ((1 : Int32) = (0 : Int32)))).1) ?_
        show Steps p.tables e below (T16.setTop (mkF m 115 #[.val (.long q1), .second, .val (.long q2), .second, .val (.int p3), .val (.ref b6), .val (.int (0 : Int32)), .val (.ref b9), .val (.int (1 : Int32))] [])) _
        refine XS.iconst X16.here hx rfl (hb hby at_115) ?_
        show Steps p.tables e below (T16.setTop (mkF m 116 #[.val (.long q1), .second, .val (.long q2), .second, .val (.int p3), .val (.ref b6), .val (.int (0 : Int32)), .val (.ref b9), .val (.int (1 : Int32))] [(.int (1 : Int32))])) _
        refine XS.goto X16.here hx rfl (pc0 := 116) (pc' := 120) rfl (hb hby at_116) (by decide) (by decide) ?_
        show Steps p.tables e below (T16.setTop (mkF m 120 #[.val (.long q1), .second, .val (.long q2), .second, .val (.int p3), .val (.ref b6), .val (.int (0 : Int32)), .val (.ref b9), .val (.int (1 : Int32))] [(.int (1 : Int32))])) _
        exact retN X16 hx (t := .boolean) Bd.returns (by simp) (hb hby at_120) hr
      · show Qrm0 Z q1 q2 p3 w4 cl5 h0 n0 _ T16.heap _
        exact ⟨rfl, N16⟩
    · have f17 : Fld Z T11.heap b6 "com/example/drowsy_thunk/drowsythunk/eval/IntValue" "value" "J" (.long q1) := ((P7_1.ext E9).keep K11 (ninS ne10 nin0))
      have f19 : Exa Z T11.heap b6 "com/example/drowsy_thunk/drowsythunk/eval/IntValue" := ((P7_0.ext E9).keep K11)
      obtain ⟨cq18, kq18, q18a, q18b, q18c⟩ := isOf hZ rfl f19
      obtain ⟨_, _, ⟨T18, L18, k18, n18⟩, -, X18, ⟨Lc18, hQ18, l18, y18, z18⟩, st18⟩ := X11.virtualBack hx (y := (⟨"com/example/drowsy_thunk/drowsythunk/eval/IntValue", "equals", "(Ljava/lang/Object;)Z"⟩ : MethodName)) (z := (⟨"com/example/drowsy_thunk/drowsythunk/eval/IntValue", "equals", "(Ljava/lang/Object;)Z"⟩ : MethodName)) hown (mvT hZ (hw _ (List.mem_of_getElem? (i := 21) rfl))) (mvT hZ (hw _ (List.mem_of_getElem? (i := 22) rfl))) (notFace_of_selects (args := #[]) (mvT hZ (hw _ (List.mem_of_getElem? (i := 24) rfl)))) (mvT hZ (hw _ (List.mem_of_getElem? (i := 24) rfl))) (mvT hZ (hw _ (List.mem_of_getElem? (i := 23) rfl))) (by decide) (backOf (W := 0) (rm5_1 l Z a0 hw [] b6 b9 q1 q2 T11.heap n0 O11 P11_0 f17 P11_1 hc) hZ (hw _ (List.mem_of_getElem? (i := 25) rfl)) (hw _ (List.mem_of_getElem? (i := 2) rfl)) (by decide) (by decide)) q18a q18c (g := (mkF m 97 #[.val (.long q1), .second, .val (.long q2), .second, .val (.int p3), .val (.ref b6), .val (.int (0 : Int32)), .val (.ref b9), .val (.int (0 : Int32))] [(.ref b9), (.ref b6)])) rfl (by rw [hml]; rfl) (Steps.refl _) (argsL := [(.ref b9)]) (rest := []) (lenOf pd_5 rfl) rfl (by show 2 * 0 + _ ≤ _; exact Nat.le_of_eq rfl) (hb hby at_97) (fun _ _ => ⟨rfl, rfl, (by decide : 2 + 0 ≤ _), (by decide : 2 + 0 ≤ _)⟩)
      dsimp only [Pt.U, Pt.locs, Pt.cells, Pt.slots] at X18 l18 y18 z18 st18 hQ18
      subst l18 y18 z18
      obtain ⟨rfl, Nq18, e18⟩ := hQ18
      have N18 := Fr.app N11 Nq18
      obtain ⟨cq20, kq20, q20a, q20b, q20c⟩ := isOf hZ e18 f19
      obtain ⟨_, _, ⟨T20, L20, k20, n20⟩, -, X20, ⟨Lc20, hQ20, l20, y20, z20⟩, st20⟩ := X18.virtualBack hx (y := (⟨"com/example/drowsy_thunk/drowsythunk/eval/IntValue", "equals", "(Ljava/lang/Object;)Z"⟩ : MethodName)) (z := (⟨"com/example/drowsy_thunk/drowsythunk/eval/IntValue", "equals", "(Ljava/lang/Object;)Z"⟩ : MethodName)) hown (mvT hZ (hw _ (List.mem_of_getElem? (i := 21) rfl))) (mvT hZ (hw _ (List.mem_of_getElem? (i := 22) rfl))) (notFace_of_selects (args := #[]) (mvT hZ (hw _ (List.mem_of_getElem? (i := 24) rfl)))) (mvT hZ (hw _ (List.mem_of_getElem? (i := 24) rfl))) (mvT hZ (hw _ (List.mem_of_getElem? (i := 23) rfl))) (by decide) (backOf (W := 0) (rm5 l Z a0 hw [] b6 b6 q1 q1 T11.heap n0 O11 f19 f17 f17 ((lw_eq _ _).mpr rfl)) hZ (hw _ (List.mem_of_getElem? (i := 25) rfl)) (hw _ (List.mem_of_getElem? (i := 2) rfl)) (by decide) (by decide)) q20a q20c (g := (mkF m 109 #[.val (.long q1), .second, .val (.long q2), .second, .val (.int p3), .val (.ref b6), .val (.int (0 : Int32)), .val (.ref b9), .val (.int (0 : Int32))] [(.ref b6), (.ref b6)])) rfl (by rw [hml]; rfl) (Steps.refl _) (argsL := [(.ref b6)]) (rest := []) (lenOf pd_5 rfl) rfl (by show 2 * 0 + _ ≤ _; exact Nat.le_of_eq rfl) (hb hby at_109) (fun _ _ => ⟨rfl, e18, (by decide : 2 + 0 ≤ _), (by decide : 2 + 0 ≤ _)⟩)
      dsimp only [Pt.U, Pt.locs, Pt.cells, Pt.slots] at X20 l20 y20 z20 st20 hQ20
      subst l20 y20 z20
      obtain ⟨rfl, Nq20, e20⟩ := hQ20
      have N20 := Fr.app N18 Nq20
      obtain ⟨fs, hr, hrun, hended, hW, hsame⟩ := X20.leave (v := some (.int (1 : Int32))) (fun h => by rw [Bd.returns] at h; cases h)
      refine ⟨_, _, pre12 _ ?_, hrun, hended, _, _, rfl, ?_, ⟨_, rfl⟩, hW, hsame.mono (by decide) (by decide)⟩
      · show Steps p.tables e below (T11.setTop (mkF m 34 #[.val (.long q1), .second, .val (.long q2), .second, .val (.int p3), .val (.ref b6), .val (.int (0 : Int32)), .val (.ref b9), .unset] [(.int (lcmpW q1 q2))])) _
        refine XS.ifYes X11.here hx rfl (pc0 := 34) (pc' := 41) rfl (hb hby at_34) rfl ((if0 _ _).trans (feq (hc : ¬ ((lcmpW q1 q2) = (0 : Int32)))).2) (by decide) (by decide) ?_
        show Steps p.tables e below (T11.setTop (mkF m 41 #[.val (.long q1), .second, .val (.long q2), .second, .val (.int p3), .val (.ref b6), .val (.int (0 : Int32)), .val (.ref b9), .unset] [])) _
        refine XS.iconst X11.here hx rfl (hb hby at_41) ?_
        show Steps p.tables e below (T11.setTop (mkF m 42 #[.val (.long q1), .second, .val (.long q2), .second, .val (.int p3), .val (.ref b6), .val (.int (0 : Int32)), .val (.ref b9), .unset] [(.int (0 : Int32))])) _
        refine XS.istore X11.here hx rfl (hb hby at_42) rfl (l' := #[.val (.long q1), .second, .val (.long q2), .second, .val (.int p3), .val (.ref b6), .val (.int (0 : Int32)), .val (.ref b9), .val (.int (0 : Int32))]) rfl ?_
        show Steps p.tables e below (T11.setTop (mkF m 44 #[.val (.long q1), .second, .val (.long q2), .second, .val (.int p3), .val (.ref b6), .val (.int (0 : Int32)), .val (.ref b9), .val (.int (0 : Int32))] [])) _
        refine XS.goto X11.here hx rfl (pc0 := 44) (pc' := 93) rfl (hb hby at_44) (by decide) (by decide) ?_
        show Steps p.tables e below (T11.setTop (mkF m 93 #[.val (.long q1), .second, .val (.long q2), .second, .val (.int p3), .val (.ref b6), .val (.int (0 : Int32)), .val (.ref b9), .val (.int (0 : Int32))] [])) _
        refine XS.aload X11.here hx rfl (hb hby at_93) rfl rfl ?_
        show Steps p.tables e below (T11.setTop (mkF m 95 #[.val (.long q1), .second, .val (.long q2), .second, .val (.int p3), .val (.ref b6), .val (.int (0 : Int32)), .val (.ref b9), .val (.int (0 : Int32))] [(.ref b6)])) _
        refine XS.aload X11.here hx rfl (hb hby at_95) rfl rfl ?_
        show Steps p.tables e below (T11.setTop (mkF m 97 #[.val (.long q1), .second, .val (.long q2), .second, .val (.int p3), .val (.ref b6), .val (.int (0 : Int32)), .val (.ref b9), .val (.int (0 : Int32))] [(.ref b9), (.ref b6)])) _
        refine st18.trans ?_
        show Steps p.tables e below (T18.setTop (mkF m 100 #[.val (.long q1), .second, .val (.long q2), .second, .val (.int p3), .val (.ref b6), .val (.int (0 : Int32)), .val (.ref b9), .val (.int (0 : Int32))] [(.int (0 : Int32))])) _
        refine XS.iload X18.here hx rfl (hb hby at_100) rfl ?_
        show Steps p.tables e below (T18.setTop (mkF m 102 #[.val (.long q1), .second, .val (.long q2), .second, .val (.int p3), .val (.ref b6), .val (.int (0 : Int32)), .val (.ref b9), .val (.int (0 : Int32))] [(.int (0 : Int32)), (.int (0 : Int32))])) _
        refine XS.icmpNo X18.here hx rfl (hb hby at_102) rfl (teq ((by decide) : (0 : Int32) = (0 : Int32))).2 ?_
        show Steps p.tables e below (T18.setTop (mkF m 105 #[.val (.long q1), .second, .val (.long q2), .second, .val (.int p3), .val (.ref b6), .val (.int (0 : Int32)), .val (.ref b9), .val (.int (0 : Int32))] [])) _
        refine XS.aload X18.here hx rfl (hb hby at_105) rfl rfl ?_
        show Steps p.tables e below (T18.setTop (mkF m 107 #[.val (.long q1), .second, .val (.long q2), .second, .val (.int p3), .val (.ref b6), .val (.int (0 : Int32)), .val (.ref b9), .val (.int (0 : Int32))] [(.ref b6)])) _
        refine XS.aload X18.here hx rfl (hb hby at_107) rfl rfl ?_
        show Steps p.tables e below (T18.setTop (mkF m 109 #[.val (.long q1), .second, .val (.long q2), .second, .val (.int p3), .val (.ref b6), .val (.int (0 : Int32)), .val (.ref b9), .val (.int (0 : Int32))] [(.ref b6), (.ref b6)])) _
        refine st20.trans ?_
        show Steps p.tables e below (T20.setTop (mkF m 112 #[.val (.long q1), .second, .val (.long q2), .second, .val (.int p3), .val (.ref b6), .val (.int (0 : Int32)), .val (.ref b9), .val (.int (0 : Int32))] [(.int (1 : Int32))])) _
        refine XS.ifNo X20.here hx rfl (hb hby at_112) rfl ((if0 _ _).trans (feq ((by decide) : ¬ ((1 : Int32) = (0 : Int32)))).1) ?_
        show Steps p.tables e below (T20.setTop (mkF m 115 #[.val (.long q1), .second, .val (.long q2), .second, .val (.int p3), .val (.ref b6), .val (.int (0 : Int32)), .val (.ref b9), .val (.int (0 : Int32))] [])) _
        refine XS.iconst X20.here hx rfl (hb hby at_115) ?_
        show Steps p.tables e below (T20.setTop (mkF m 116 #[.val (.long q1), .second, .val (.long q2), .second, .val (.int p3), .val (.ref b6), .val (.int (0 : Int32)), .val (.ref b9), .val (.int (0 : Int32))] [(.int (1 : Int32))])) _
        refine XS.goto X20.here hx rfl (pc0 := 116) (pc' := 120) rfl (hb hby at_116) (by decide) (by decide) ?_
        show Steps p.tables e below (T20.setTop (mkF m 120 #[.val (.long q1), .second, .val (.long q2), .second, .val (.int p3), .val (.ref b6), .val (.int (0 : Int32)), .val (.ref b9), .val (.int (0 : Int32))] [(.int (1 : Int32))])) _
        exact retN X20 hx (t := .boolean) Bd.returns (by simp) (hb hby at_120) hr
      · show Qrm0 Z q1 q2 p3 w4 cl5 h0 n0 _ T20.heap _
        exact ⟨rfl, N20⟩
  · obtain ⟨T21, h21, X21, e21, E21, A21, D21, U21, st21⟩ := newO X7 hx hZ hown (hw _ (List.mem_of_getElem? (i := 0) rfl)) (hw _ (List.mem_of_getElem? (i := 1) rfl)) (hw _ (List.mem_of_getElem? (i := 2) rfl)) rfl (g := (mkF m 53 #[.val (.long q1), .second, .val (.long q2), .second, .val (.int p3), .val (.ref b6), .val (.int (1 : Int32)), .unset, .unset] [])) rfl (hb hby at_53) (by decide) (by decide)
    obtain ⟨b21, g21⟩ : ∃ z, z = T7.heap.size := ⟨_, rfl⟩
    rw [← g21] at A21 D21 U21 st21
    have ne22 : b6 ≠ b21 := (own_ltn P7_0.lt (own_eqle g21))
    have g_b21 : n0 ≤ b21 := own_born O7 (own_eqle g21)
    have sz_b21 : h0.size ≤ b21 := Nat.le_trans KK7.1 (own_eqle g21)
    have K21 : Keep h0 h21 [] := KK7.ext E21
    have O21 : Old Z n0 h21 := O7.ext E21
    have F21_value : Fld Z h21 b21 "com/example/drowsy_thunk/drowsythunk/eval/IntValue" "value" "J" (.long (0 : Int64)) := D21 (Or.inr (hw _ (List.mem_of_getElem? (i := 20) rfl))) (ty := .long) (by decide)
    obtain ⟨_, _, ⟨T23, L23, k23, n23⟩, -, X23, ⟨Lc23, hQ23, l23, y23, z23⟩, st23⟩ := X21.specialBack hx (y := (⟨"com/example/drowsy_thunk/drowsythunk/eval/IntValue", "<init>", "(J)V"⟩ : MethodName)) rfl hown (mvT hZ (hw _ (List.mem_of_getElem? (i := 3) rfl))) (mvT hZ (hw _ (List.mem_of_getElem? (i := 4) rfl))) (mvT hZ (hw _ (List.mem_of_getElem? (i := 5) rfl))) (by decide) (backOf (W := 1) (rm1 l Z a0 hw [] b21 q1 h21 n0 O21 A21 F21_value g_b21) hZ (hw _ (List.mem_of_getElem? (i := 5) rfl)) (hw _ (List.mem_of_getElem? (i := 2) rfl)) (by decide) (by decide)) (g := (mkF m 58 #[.val (.long q1), .second, .val (.long q2), .second, .val (.int p3), .val (.ref b6), .val (.int (1 : Int32)), .unset, .unset] [(.long q1), (.ref b21), (.ref b21)])) rfl (by rw [hml]; rfl) (Steps.refl _) (a := b21) (argsL := [(.long q1)]) (rest := [(.ref b21)]) (lenOf pd_4 rfl) rfl (by show 2 * 0 + _ ≤ _; exact Nat.le_of_eq rfl) (hb hby at_58) (fun _ _ => ⟨rfl, e21, (by decide : 2 + 0 ≤ _), (by decide : 2 + 0 ≤ _)⟩)
    dsimp only [Pt.U, Pt.locs, Pt.cells, Pt.slots] at X23 l23 y23 z23 st23 hQ23
    subst l23 y23 z23
    obtain ⟨rfl, Nq23, K23, P23_0, P23_1⟩ := hQ23
    have N23 := Fr.app N7 Nq23
    have KK23 : Keep h0 T23.heap [] := Keep.trans (h := h21) K21 K23 (allS (Or.inr sz_b21) all0)
    have O23 : Old Z n0 T23.heap := O21.keep K23 (allS g_b21 all0)
    have f24 : Fld Z T23.heap b6 "com/example/drowsy_thunk/drowsythunk/eval/IntValue" "value" "J" (.long q1) := ((P7_1.ext E21).keep K23 (ninS ne22 nin0))
    have f26 : Exa Z T23.heap b6 "com/example/drowsy_thunk/drowsythunk/eval/IntValue" := ((P7_0.ext E21).keep K23)
    obtain ⟨cq25, kq25, q25a, q25b, q25c⟩ := isOf hZ rfl f26
    obtain ⟨_, _, ⟨T25, L25, k25, n25⟩, -, X25, ⟨Lc25, hQ25, l25, y25, z25⟩, st25⟩ := X23.virtualBack hx (y := (⟨"com/example/drowsy_thunk/drowsythunk/eval/IntValue", "equals", "(Ljava/lang/Object;)Z"⟩ : MethodName)) (z := (⟨"com/example/drowsy_thunk/drowsythunk/eval/IntValue", "equals", "(Ljava/lang/Object;)Z"⟩ : MethodName)) hown (mvT hZ (hw _ (List.mem_of_getElem? (i := 21) rfl))) (mvT hZ (hw _ (List.mem_of_getElem? (i := 22) rfl))) (notFace_of_selects (args := #[]) (mvT hZ (hw _ (List.mem_of_getElem? (i := 24) rfl)))) (mvT hZ (hw _ (List.mem_of_getElem? (i := 24) rfl))) (mvT hZ (hw _ (List.mem_of_getElem? (i := 23) rfl))) (by decide) (backOf (W := 0) (rm5 l Z a0 hw [] b6 b21 q1 q1 T23.heap n0 O23 P23_0 f24 P23_1 ((lw_eq _ _).mpr rfl)) hZ (hw _ (List.mem_of_getElem? (i := 25) rfl)) (hw _ (List.mem_of_getElem? (i := 2) rfl)) (by decide) (by decide)) q25a q25c (g := (mkF m 97 #[.val (.long q1), .second, .val (.long q2), .second, .val (.int p3), .val (.ref b6), .val (.int (1 : Int32)), .val (.ref b21), .val (.int (1 : Int32))] [(.ref b21), (.ref b6)])) rfl (by rw [hml]; rfl) (Steps.refl _) (argsL := [(.ref b21)]) (rest := []) (lenOf pd_5 rfl) rfl (by show 2 * 0 + _ ≤ _; exact Nat.le_of_eq rfl) (hb hby at_97) (fun _ _ => ⟨rfl, rfl, (by decide : 2 + 0 ≤ _), (by decide : 2 + 0 ≤ _)⟩)
    dsimp only [Pt.U, Pt.locs, Pt.cells, Pt.slots] at X25 l25 y25 z25 st25 hQ25
    subst l25 y25 z25
    obtain ⟨rfl, Nq25, e25⟩ := hQ25
    have N25 := Fr.app N23 Nq25
    obtain ⟨cq27, kq27, q27a, q27b, q27c⟩ := isOf hZ e25 f26
    obtain ⟨_, _, ⟨T27, L27, k27, n27⟩, -, X27, ⟨Lc27, hQ27, l27, y27, z27⟩, st27⟩ := X25.virtualBack hx (y := (⟨"com/example/drowsy_thunk/drowsythunk/eval/IntValue", "equals", "(Ljava/lang/Object;)Z"⟩ : MethodName)) (z := (⟨"com/example/drowsy_thunk/drowsythunk/eval/IntValue", "equals", "(Ljava/lang/Object;)Z"⟩ : MethodName)) hown (mvT hZ (hw _ (List.mem_of_getElem? (i := 21) rfl))) (mvT hZ (hw _ (List.mem_of_getElem? (i := 22) rfl))) (notFace_of_selects (args := #[]) (mvT hZ (hw _ (List.mem_of_getElem? (i := 24) rfl)))) (mvT hZ (hw _ (List.mem_of_getElem? (i := 24) rfl))) (mvT hZ (hw _ (List.mem_of_getElem? (i := 23) rfl))) (by decide) (backOf (W := 0) (rm5 l Z a0 hw [] b6 b6 q1 q1 T23.heap n0 O23 f26 f24 f24 ((lw_eq _ _).mpr rfl)) hZ (hw _ (List.mem_of_getElem? (i := 25) rfl)) (hw _ (List.mem_of_getElem? (i := 2) rfl)) (by decide) (by decide)) q27a q27c (g := (mkF m 109 #[.val (.long q1), .second, .val (.long q2), .second, .val (.int p3), .val (.ref b6), .val (.int (1 : Int32)), .val (.ref b21), .val (.int (1 : Int32))] [(.ref b6), (.ref b6)])) rfl (by rw [hml]; rfl) (Steps.refl _) (argsL := [(.ref b6)]) (rest := []) (lenOf pd_5 rfl) rfl (by show 2 * 0 + _ ≤ _; exact Nat.le_of_eq rfl) (hb hby at_109) (fun _ _ => ⟨rfl, e25, (by decide : 2 + 0 ≤ _), (by decide : 2 + 0 ≤ _)⟩)
    dsimp only [Pt.U, Pt.locs, Pt.cells, Pt.slots] at X27 l27 y27 z27 st27 hQ27
    subst l27 y27 z27
    obtain ⟨rfl, Nq27, e27⟩ := hQ27
    have N27 := Fr.app N25 Nq27
    obtain ⟨fs, hr, hrun, hended, hW, hsame⟩ := X27.leave (v := some (.int (1 : Int32))) (fun h => by rw [Bd.returns] at h; cases h)
    refine ⟨_, _, pre8 _ ?_, hrun, hended, _, _, rfl, ?_, ⟨_, rfl⟩, hW, hsame.mono (by decide) (by decide)⟩
    · show Steps p.tables e below (T7.setTop (mkF m 16 #[.val (.long q1), .second, .val (.long q2), .second, .val (.int p3), .val (.ref b6), .val (.int (p3 &&& (3 : Int32))), .unset, .unset] [])) _
      rw [hk]
      show Steps p.tables e below (T7.setTop (mkF m 16 #[.val (.long q1), .second, .val (.long q2), .second, .val (.int p3), .val (.ref b6), .val (.int (1 : Int32)), .unset, .unset] [])) _
      refine XS.iload X7.here hx rfl (hb hby at_16) rfl ?_
      show Steps p.tables e below (T7.setTop (mkF m 18 #[.val (.long q1), .second, .val (.long q2), .second, .val (.int p3), .val (.ref b6), .val (.int (1 : Int32)), .unset, .unset] [(.int (1 : Int32))])) _
      refine XS.ifYes X7.here hx rfl (pc0 := 18) (pc' := 47) rfl (hb hby at_18) rfl ((if0 _ _).trans (feq ((by decide) : ¬ ((1 : Int32) = (0 : Int32)))).2) (by decide) (by decide) ?_
      show Steps p.tables e below (T7.setTop (mkF m 47 #[.val (.long q1), .second, .val (.long q2), .second, .val (.int p3), .val (.ref b6), .val (.int (1 : Int32)), .unset, .unset] [])) _
      refine XS.iload X7.here hx rfl (hb hby at_47) rfl ?_
      show Steps p.tables e below (T7.setTop (mkF m 49 #[.val (.long q1), .second, .val (.long q2), .second, .val (.int p3), .val (.ref b6), .val (.int (1 : Int32)), .unset, .unset] [(.int (1 : Int32))])) _
      refine XS.iconst X7.here hx rfl (hb hby at_49) ?_
      show Steps p.tables e below (T7.setTop (mkF m 50 #[.val (.long q1), .second, .val (.long q2), .second, .val (.int p3), .val (.ref b6), .val (.int (1 : Int32)), .unset, .unset] [(.int (1 : Int32)), (.int (1 : Int32))])) _
      refine XS.icmpNo X7.here hx rfl (hb hby at_50) rfl (teq ((by decide) : (1 : Int32) = (1 : Int32))).2 ?_
      show Steps p.tables e below (T7.setTop (mkF m 53 #[.val (.long q1), .second, .val (.long q2), .second, .val (.int p3), .val (.ref b6), .val (.int (1 : Int32)), .unset, .unset] [])) _
      refine st21 _ ?_
      show Steps p.tables e below (T21.setTop (mkF m 56 #[.val (.long q1), .second, .val (.long q2), .second, .val (.int p3), .val (.ref b6), .val (.int (1 : Int32)), .unset, .unset] [(.ref b21)])) _
      refine XS.dup X21.here hx rfl (hb hby at_56) rfl rfl ?_
      show Steps p.tables e below (T21.setTop (mkF m 57 #[.val (.long q1), .second, .val (.long q2), .second, .val (.int p3), .val (.ref b6), .val (.int (1 : Int32)), .unset, .unset] [(.ref b21), (.ref b21)])) _
      refine XS.lloadN X21.here hx rfl (hb hby at_57) rfl ?_
      show Steps p.tables e below (T21.setTop (mkF m 58 #[.val (.long q1), .second, .val (.long q2), .second, .val (.int p3), .val (.ref b6), .val (.int (1 : Int32)), .unset, .unset] [(.long q1), (.ref b21), (.ref b21)])) _
      refine st23.trans ?_
      show Steps p.tables e below (T23.setTop (mkF m 61 #[.val (.long q1), .second, .val (.long q2), .second, .val (.int p3), .val (.ref b6), .val (.int (1 : Int32)), .unset, .unset] [(.ref b21)])) _
      refine XS.astore X23.here hx rfl (hb hby at_61) rfl rfl (l' := #[.val (.long q1), .second, .val (.long q2), .second, .val (.int p3), .val (.ref b6), .val (.int (1 : Int32)), .val (.ref b21), .unset]) rfl ?_
      show Steps p.tables e below (T23.setTop (mkF m 63 #[.val (.long q1), .second, .val (.long q2), .second, .val (.int p3), .val (.ref b6), .val (.int (1 : Int32)), .val (.ref b21), .unset] [])) _
      refine XS.iconst X23.here hx rfl (hb hby at_63) ?_
      show Steps p.tables e below (T23.setTop (mkF m 64 #[.val (.long q1), .second, .val (.long q2), .second, .val (.int p3), .val (.ref b6), .val (.int (1 : Int32)), .val (.ref b21), .unset] [(.int (1 : Int32))])) _
      refine XS.istore X23.here hx rfl (hb hby at_64) rfl (l' := #[.val (.long q1), .second, .val (.long q2), .second, .val (.int p3), .val (.ref b6), .val (.int (1 : Int32)), .val (.ref b21), .val (.int (1 : Int32))]) rfl ?_
      show Steps p.tables e below (T23.setTop (mkF m 66 #[.val (.long q1), .second, .val (.long q2), .second, .val (.int p3), .val (.ref b6), .val (.int (1 : Int32)), .val (.ref b21), .val (.int (1 : Int32))] [])) _
      refine XS.goto X23.here hx rfl (pc0 := 66) (pc' := 93) rfl (hb hby at_66) (by decide) (by decide) ?_
      show Steps p.tables e below (T23.setTop (mkF m 93 #[.val (.long q1), .second, .val (.long q2), .second, .val (.int p3), .val (.ref b6), .val (.int (1 : Int32)), .val (.ref b21), .val (.int (1 : Int32))] [])) _
      refine XS.aload X23.here hx rfl (hb hby at_93) rfl rfl ?_
      show Steps p.tables e below (T23.setTop (mkF m 95 #[.val (.long q1), .second, .val (.long q2), .second, .val (.int p3), .val (.ref b6), .val (.int (1 : Int32)), .val (.ref b21), .val (.int (1 : Int32))] [(.ref b6)])) _
      refine XS.aload X23.here hx rfl (hb hby at_95) rfl rfl ?_
      show Steps p.tables e below (T23.setTop (mkF m 97 #[.val (.long q1), .second, .val (.long q2), .second, .val (.int p3), .val (.ref b6), .val (.int (1 : Int32)), .val (.ref b21), .val (.int (1 : Int32))] [(.ref b21), (.ref b6)])) _
      refine st25.trans ?_
      show Steps p.tables e below (T25.setTop (mkF m 100 #[.val (.long q1), .second, .val (.long q2), .second, .val (.int p3), .val (.ref b6), .val (.int (1 : Int32)), .val (.ref b21), .val (.int (1 : Int32))] [(.int (1 : Int32))])) _
      refine XS.iload X25.here hx rfl (hb hby at_100) rfl ?_
      show Steps p.tables e below (T25.setTop (mkF m 102 #[.val (.long q1), .second, .val (.long q2), .second, .val (.int p3), .val (.ref b6), .val (.int (1 : Int32)), .val (.ref b21), .val (.int (1 : Int32))] [(.int (1 : Int32)), (.int (1 : Int32))])) _
      refine XS.icmpNo X25.here hx rfl (hb hby at_102) rfl (teq ((by decide) : (1 : Int32) = (1 : Int32))).2 ?_
      show Steps p.tables e below (T25.setTop (mkF m 105 #[.val (.long q1), .second, .val (.long q2), .second, .val (.int p3), .val (.ref b6), .val (.int (1 : Int32)), .val (.ref b21), .val (.int (1 : Int32))] [])) _
      refine XS.aload X25.here hx rfl (hb hby at_105) rfl rfl ?_
      show Steps p.tables e below (T25.setTop (mkF m 107 #[.val (.long q1), .second, .val (.long q2), .second, .val (.int p3), .val (.ref b6), .val (.int (1 : Int32)), .val (.ref b21), .val (.int (1 : Int32))] [(.ref b6)])) _
      refine XS.aload X25.here hx rfl (hb hby at_107) rfl rfl ?_
      show Steps p.tables e below (T25.setTop (mkF m 109 #[.val (.long q1), .second, .val (.long q2), .second, .val (.int p3), .val (.ref b6), .val (.int (1 : Int32)), .val (.ref b21), .val (.int (1 : Int32))] [(.ref b6), (.ref b6)])) _
      refine st27.trans ?_
      show Steps p.tables e below (T27.setTop (mkF m 112 #[.val (.long q1), .second, .val (.long q2), .second, .val (.int p3), .val (.ref b6), .val (.int (1 : Int32)), .val (.ref b21), .val (.int (1 : Int32))] [(.int (1 : Int32))])) _
      refine XS.ifNo X27.here hx rfl (hb hby at_112) rfl ((if0 _ _).trans (feq ((by decide) : ¬ ((1 : Int32) = (0 : Int32)))).1) ?_
      show Steps p.tables e below (T27.setTop (mkF m 115 #[.val (.long q1), .second, .val (.long q2), .second, .val (.int p3), .val (.ref b6), .val (.int (1 : Int32)), .val (.ref b21), .val (.int (1 : Int32))] [])) _
      refine XS.iconst X27.here hx rfl (hb hby at_115) ?_
      show Steps p.tables e below (T27.setTop (mkF m 116 #[.val (.long q1), .second, .val (.long q2), .second, .val (.int p3), .val (.ref b6), .val (.int (1 : Int32)), .val (.ref b21), .val (.int (1 : Int32))] [(.int (1 : Int32))])) _
      refine XS.goto X27.here hx rfl (pc0 := 116) (pc' := 120) rfl (hb hby at_116) (by decide) (by decide) ?_
      show Steps p.tables e below (T27.setTop (mkF m 120 #[.val (.long q1), .second, .val (.long q2), .second, .val (.int p3), .val (.ref b6), .val (.int (1 : Int32)), .val (.ref b21), .val (.int (1 : Int32))] [(.int (1 : Int32))])) _
      exact retN X27 hx (t := .boolean) Bd.returns (by simp) (hb hby at_120) hr
    · show Qrm0 Z q1 q2 p3 w4 cl5 h0 n0 _ T27.heap _
      exact ⟨rfl, N27⟩
  · obtain ⟨cq28, kq28, q28a, q28b, q28c⟩ := isOf hZ rfl P7_0
    obtain ⟨_, _, ⟨T28, L28, k28, n28⟩, -, X28, ⟨Lc28, hQ28, l28, y28, z28⟩, st28⟩ := X7.virtualBack hx (y := (⟨"com/example/drowsy_thunk/drowsythunk/eval/IntValue", "equals", "(Ljava/lang/Object;)Z"⟩ : MethodName)) (z := (⟨"com/example/drowsy_thunk/drowsythunk/eval/IntValue", "equals", "(Ljava/lang/Object;)Z"⟩ : MethodName)) hown (mvT hZ (hw _ (List.mem_of_getElem? (i := 21) rfl))) (mvT hZ (hw _ (List.mem_of_getElem? (i := 22) rfl))) (notFace_of_selects (args := #[]) (mvT hZ (hw _ (List.mem_of_getElem? (i := 24) rfl)))) (mvT hZ (hw _ (List.mem_of_getElem? (i := 24) rfl))) (mvT hZ (hw _ (List.mem_of_getElem? (i := 23) rfl))) (by decide) (backOf (W := 0) (rm5_2 l Z a0 hw [] b6 T7.heap n0 O7 ) hZ (hw _ (List.mem_of_getElem? (i := 25) rfl)) (hw _ (List.mem_of_getElem? (i := 2) rfl)) (by decide) (by decide)) q28a q28c (g := (mkF m 97 #[.val (.long q1), .second, .val (.long q2), .second, .val (.int p3), .val (.ref b6), .val (.int (2 : Int32)), .val .null, .val (.int (0 : Int32))] [.null, (.ref b6)])) rfl (by rw [hml]; rfl) (Steps.refl _) (argsL := [.null]) (rest := []) (lenOf pd_5 rfl) rfl (by show 2 * 0 + _ ≤ _; exact Nat.le_of_eq rfl) (hb hby at_97) (fun _ _ => ⟨rfl, rfl, (by decide : 1 + 0 ≤ _), (by decide : 1 + 0 ≤ _)⟩)
    dsimp only [Pt.U, Pt.locs, Pt.cells, Pt.slots] at X28 l28 y28 z28 st28 hQ28
    subst l28 y28 z28
    obtain ⟨rfl, Nq28, e28⟩ := hQ28
    have N28 := Fr.app N7 Nq28
    obtain ⟨cq29, kq29, q29a, q29b, q29c⟩ := isOf hZ e28 P7_0
    obtain ⟨_, _, ⟨T29, L29, k29, n29⟩, -, X29, ⟨Lc29, hQ29, l29, y29, z29⟩, st29⟩ := X28.virtualBack hx (y := (⟨"com/example/drowsy_thunk/drowsythunk/eval/IntValue", "equals", "(Ljava/lang/Object;)Z"⟩ : MethodName)) (z := (⟨"com/example/drowsy_thunk/drowsythunk/eval/IntValue", "equals", "(Ljava/lang/Object;)Z"⟩ : MethodName)) hown (mvT hZ (hw _ (List.mem_of_getElem? (i := 21) rfl))) (mvT hZ (hw _ (List.mem_of_getElem? (i := 22) rfl))) (notFace_of_selects (args := #[]) (mvT hZ (hw _ (List.mem_of_getElem? (i := 24) rfl)))) (mvT hZ (hw _ (List.mem_of_getElem? (i := 24) rfl))) (mvT hZ (hw _ (List.mem_of_getElem? (i := 23) rfl))) (by decide) (backOf (W := 0) (rm5 l Z a0 hw [] b6 b6 q1 q1 T7.heap n0 O7 P7_0 P7_1 P7_1 ((lw_eq _ _).mpr rfl)) hZ (hw _ (List.mem_of_getElem? (i := 25) rfl)) (hw _ (List.mem_of_getElem? (i := 2) rfl)) (by decide) (by decide)) q29a q29c (g := (mkF m 109 #[.val (.long q1), .second, .val (.long q2), .second, .val (.int p3), .val (.ref b6), .val (.int (2 : Int32)), .val .null, .val (.int (0 : Int32))] [(.ref b6), (.ref b6)])) rfl (by rw [hml]; rfl) (Steps.refl _) (argsL := [(.ref b6)]) (rest := []) (lenOf pd_5 rfl) rfl (by show 2 * 0 + _ ≤ _; exact Nat.le_of_eq rfl) (hb hby at_109) (fun _ _ => ⟨rfl, e28, (by decide : 1 + 0 ≤ _), (by decide : 1 + 0 ≤ _)⟩)
    dsimp only [Pt.U, Pt.locs, Pt.cells, Pt.slots] at X29 l29 y29 z29 st29 hQ29
    subst l29 y29 z29
    obtain ⟨rfl, Nq29, e29⟩ := hQ29
    have N29 := Fr.app N28 Nq29
    obtain ⟨fs, hr, hrun, hended, hW, hsame⟩ := X29.leave (v := some (.int (1 : Int32))) (fun h => by rw [Bd.returns] at h; cases h)
    refine ⟨_, _, pre8 _ ?_, hrun, hended, _, _, rfl, ?_, ⟨_, rfl⟩, hW, hsame.mono (by decide) (by decide)⟩
    · show Steps p.tables e below (T7.setTop (mkF m 16 #[.val (.long q1), .second, .val (.long q2), .second, .val (.int p3), .val (.ref b6), .val (.int (p3 &&& (3 : Int32))), .unset, .unset] [])) _
      rw [hk]
      show Steps p.tables e below (T7.setTop (mkF m 16 #[.val (.long q1), .second, .val (.long q2), .second, .val (.int p3), .val (.ref b6), .val (.int (2 : Int32)), .unset, .unset] [])) _
      refine XS.iload X7.here hx rfl (hb hby at_16) rfl ?_
      show Steps p.tables e below (T7.setTop (mkF m 18 #[.val (.long q1), .second, .val (.long q2), .second, .val (.int p3), .val (.ref b6), .val (.int (2 : Int32)), .unset, .unset] [(.int (2 : Int32))])) _
      refine XS.ifYes X7.here hx rfl (pc0 := 18) (pc' := 47) rfl (hb hby at_18) rfl ((if0 _ _).trans (feq ((by decide) : ¬ ((2 : Int32) = (0 : Int32)))).2) (by decide) (by decide) ?_
      show Steps p.tables e below (T7.setTop (mkF m 47 #[.val (.long q1), .second, .val (.long q2), .second, .val (.int p3), .val (.ref b6), .val (.int (2 : Int32)), .unset, .unset] [])) _
      refine XS.iload X7.here hx rfl (hb hby at_47) rfl ?_
      show Steps p.tables e below (T7.setTop (mkF m 49 #[.val (.long q1), .second, .val (.long q2), .second, .val (.int p3), .val (.ref b6), .val (.int (2 : Int32)), .unset, .unset] [(.int (2 : Int32))])) _
      refine XS.iconst X7.here hx rfl (hb hby at_49) ?_
      show Steps p.tables e below (T7.setTop (mkF m 50 #[.val (.long q1), .second, .val (.long q2), .second, .val (.int p3), .val (.ref b6), .val (.int (2 : Int32)), .unset, .unset] [(.int (1 : Int32)), (.int (2 : Int32))])) _
      refine XS.icmpYes X7.here hx rfl (pc0 := 50) (pc' := 69) rfl (hb hby at_50) rfl (feq ((by decide) : ¬ ((2 : Int32) = (1 : Int32)))).2 (by decide) (by decide) ?_
      show Steps p.tables e below (T7.setTop (mkF m 69 #[.val (.long q1), .second, .val (.long q2), .second, .val (.int p3), .val (.ref b6), .val (.int (2 : Int32)), .unset, .unset] [])) _
      refine XS.iload X7.here hx rfl (hb hby at_69) rfl ?_
      show Steps p.tables e below (T7.setTop (mkF m 71 #[.val (.long q1), .second, .val (.long q2), .second, .val (.int p3), .val (.ref b6), .val (.int (2 : Int32)), .unset, .unset] [(.int (2 : Int32))])) _
      refine XS.iconst X7.here hx rfl (hb hby at_71) ?_
      show Steps p.tables e below (T7.setTop (mkF m 72 #[.val (.long q1), .second, .val (.long q2), .second, .val (.int p3), .val (.ref b6), .val (.int (2 : Int32)), .unset, .unset] [(.int (2 : Int32)), (.int (2 : Int32))])) _
      refine XS.icmpNo X7.here hx rfl (hb hby at_72) rfl (teq ((by decide) : (2 : Int32) = (2 : Int32))).2 ?_
      show Steps p.tables e below (T7.setTop (mkF m 75 #[.val (.long q1), .second, .val (.long q2), .second, .val (.int p3), .val (.ref b6), .val (.int (2 : Int32)), .unset, .unset] [])) _
      refine XS.aconstNull X7.here hx rfl (hb hby at_75) ?_
      show Steps p.tables e below (T7.setTop (mkF m 76 #[.val (.long q1), .second, .val (.long q2), .second, .val (.int p3), .val (.ref b6), .val (.int (2 : Int32)), .unset, .unset] [.null])) _
      refine XS.astore X7.here hx rfl (hb hby at_76) rfl rfl (l' := #[.val (.long q1), .second, .val (.long q2), .second, .val (.int p3), .val (.ref b6), .val (.int (2 : Int32)), .val .null, .unset]) rfl ?_
      show Steps p.tables e below (T7.setTop (mkF m 78 #[.val (.long q1), .second, .val (.long q2), .second, .val (.int p3), .val (.ref b6), .val (.int (2 : Int32)), .val .null, .unset] [])) _
      refine XS.iconst X7.here hx rfl (hb hby at_78) ?_
      show Steps p.tables e below (T7.setTop (mkF m 79 #[.val (.long q1), .second, .val (.long q2), .second, .val (.int p3), .val (.ref b6), .val (.int (2 : Int32)), .val .null, .unset] [(.int (0 : Int32))])) _
      refine XS.istore X7.here hx rfl (hb hby at_79) rfl (l' := #[.val (.long q1), .second, .val (.long q2), .second, .val (.int p3), .val (.ref b6), .val (.int (2 : Int32)), .val .null, .val (.int (0 : Int32))]) rfl ?_
      show Steps p.tables e below (T7.setTop (mkF m 81 #[.val (.long q1), .second, .val (.long q2), .second, .val (.int p3), .val (.ref b6), .val (.int (2 : Int32)), .val .null, .val (.int (0 : Int32))] [])) _
      refine XS.goto X7.here hx rfl (pc0 := 81) (pc' := 93) rfl (hb hby at_81) (by decide) (by decide) ?_
      show Steps p.tables e below (T7.setTop (mkF m 93 #[.val (.long q1), .second, .val (.long q2), .second, .val (.int p3), .val (.ref b6), .val (.int (2 : Int32)), .val .null, .val (.int (0 : Int32))] [])) _
      refine XS.aload X7.here hx rfl (hb hby at_93) rfl rfl ?_
      show Steps p.tables e below (T7.setTop (mkF m 95 #[.val (.long q1), .second, .val (.long q2), .second, .val (.int p3), .val (.ref b6), .val (.int (2 : Int32)), .val .null, .val (.int (0 : Int32))] [(.ref b6)])) _
      refine XS.aload X7.here hx rfl (hb hby at_95) rfl rfl ?_
      show Steps p.tables e below (T7.setTop (mkF m 97 #[.val (.long q1), .second, .val (.long q2), .second, .val (.int p3), .val (.ref b6), .val (.int (2 : Int32)), .val .null, .val (.int (0 : Int32))] [.null, (.ref b6)])) _
      refine st28.trans ?_
      show Steps p.tables e below (T28.setTop (mkF m 100 #[.val (.long q1), .second, .val (.long q2), .second, .val (.int p3), .val (.ref b6), .val (.int (2 : Int32)), .val .null, .val (.int (0 : Int32))] [(.int (0 : Int32))])) _
      refine XS.iload X28.here hx rfl (hb hby at_100) rfl ?_
      show Steps p.tables e below (T28.setTop (mkF m 102 #[.val (.long q1), .second, .val (.long q2), .second, .val (.int p3), .val (.ref b6), .val (.int (2 : Int32)), .val .null, .val (.int (0 : Int32))] [(.int (0 : Int32)), (.int (0 : Int32))])) _
      refine XS.icmpNo X28.here hx rfl (hb hby at_102) rfl (teq ((by decide) : (0 : Int32) = (0 : Int32))).2 ?_
      show Steps p.tables e below (T28.setTop (mkF m 105 #[.val (.long q1), .second, .val (.long q2), .second, .val (.int p3), .val (.ref b6), .val (.int (2 : Int32)), .val .null, .val (.int (0 : Int32))] [])) _
      refine XS.aload X28.here hx rfl (hb hby at_105) rfl rfl ?_
      show Steps p.tables e below (T28.setTop (mkF m 107 #[.val (.long q1), .second, .val (.long q2), .second, .val (.int p3), .val (.ref b6), .val (.int (2 : Int32)), .val .null, .val (.int (0 : Int32))] [(.ref b6)])) _
      refine XS.aload X28.here hx rfl (hb hby at_107) rfl rfl ?_
      show Steps p.tables e below (T28.setTop (mkF m 109 #[.val (.long q1), .second, .val (.long q2), .second, .val (.int p3), .val (.ref b6), .val (.int (2 : Int32)), .val .null, .val (.int (0 : Int32))] [(.ref b6), (.ref b6)])) _
      refine st29.trans ?_
      show Steps p.tables e below (T29.setTop (mkF m 112 #[.val (.long q1), .second, .val (.long q2), .second, .val (.int p3), .val (.ref b6), .val (.int (2 : Int32)), .val .null, .val (.int (0 : Int32))] [(.int (1 : Int32))])) _
      refine XS.ifNo X29.here hx rfl (hb hby at_112) rfl ((if0 _ _).trans (feq ((by decide) : ¬ ((1 : Int32) = (0 : Int32)))).1) ?_
      show Steps p.tables e below (T29.setTop (mkF m 115 #[.val (.long q1), .second, .val (.long q2), .second, .val (.int p3), .val (.ref b6), .val (.int (2 : Int32)), .val .null, .val (.int (0 : Int32))] [])) _
      refine XS.iconst X29.here hx rfl (hb hby at_115) ?_
      show Steps p.tables e below (T29.setTop (mkF m 116 #[.val (.long q1), .second, .val (.long q2), .second, .val (.int p3), .val (.ref b6), .val (.int (2 : Int32)), .val .null, .val (.int (0 : Int32))] [(.int (1 : Int32))])) _
      refine XS.goto X29.here hx rfl (pc0 := 116) (pc' := 120) rfl (hb hby at_116) (by decide) (by decide) ?_
      show Steps p.tables e below (T29.setTop (mkF m 120 #[.val (.long q1), .second, .val (.long q2), .second, .val (.int p3), .val (.ref b6), .val (.int (2 : Int32)), .val .null, .val (.int (0 : Int32))] [(.int (1 : Int32))])) _
      exact retN X29 hx (t := .boolean) Bd.returns (by simp) (hb hby at_120) hr
    · show Qrm0 Z q1 q2 p3 w4 cl5 h0 n0 _ T29.heap _
      exact ⟨rfl, N29⟩
  · have pre30 : ∀ t, Steps p.tables e below (T7.setTop (mkF m 85 #[.val (.long q1), .second, .val (.long q2), .second, .val (.int p3), .val (.ref b6), .val (.int (3 : Int32)), .unset, .unset] [(.long q1)])) t → Steps p.tables e below (s₁.setTop (entryFrame m #[(.long q1), (.long q2), (.int p3)] maxLocals)) t := fun t kt => pre8 t (by
      show Steps p.tables e below (T7.setTop (mkF m 16 #[.val (.long q1), .second, .val (.long q2), .second, .val (.int p3), .val (.ref b6), .val (.int (p3 &&& (3 : Int32))), .unset, .unset] [])) _
      rw [hk]
      show Steps p.tables e below (T7.setTop (mkF m 16 #[.val (.long q1), .second, .val (.long q2), .second, .val (.int p3), .val (.ref b6), .val (.int (3 : Int32)), .unset, .unset] [])) _
      refine XS.iload X7.here hx rfl (hb hby at_16) rfl ?_
      show Steps p.tables e below (T7.setTop (mkF m 18 #[.val (.long q1), .second, .val (.long q2), .second, .val (.int p3), .val (.ref b6), .val (.int (3 : Int32)), .unset, .unset] [(.int (3 : Int32))])) _
      refine XS.ifYes X7.here hx rfl (pc0 := 18) (pc' := 47) rfl (hb hby at_18) rfl ((if0 _ _).trans (feq ((by decide) : ¬ ((3 : Int32) = (0 : Int32)))).2) (by decide) (by decide) ?_
      show Steps p.tables e below (T7.setTop (mkF m 47 #[.val (.long q1), .second, .val (.long q2), .second, .val (.int p3), .val (.ref b6), .val (.int (3 : Int32)), .unset, .unset] [])) _
      refine XS.iload X7.here hx rfl (hb hby at_47) rfl ?_
      show Steps p.tables e below (T7.setTop (mkF m 49 #[.val (.long q1), .second, .val (.long q2), .second, .val (.int p3), .val (.ref b6), .val (.int (3 : Int32)), .unset, .unset] [(.int (3 : Int32))])) _
      refine XS.iconst X7.here hx rfl (hb hby at_49) ?_
      show Steps p.tables e below (T7.setTop (mkF m 50 #[.val (.long q1), .second, .val (.long q2), .second, .val (.int p3), .val (.ref b6), .val (.int (3 : Int32)), .unset, .unset] [(.int (1 : Int32)), (.int (3 : Int32))])) _
      refine XS.icmpYes X7.here hx rfl (pc0 := 50) (pc' := 69) rfl (hb hby at_50) rfl (feq ((by decide) : ¬ ((3 : Int32) = (1 : Int32)))).2 (by decide) (by decide) ?_
      show Steps p.tables e below (T7.setTop (mkF m 69 #[.val (.long q1), .second, .val (.long q2), .second, .val (.int p3), .val (.ref b6), .val (.int (3 : Int32)), .unset, .unset] [])) _
      refine XS.iload X7.here hx rfl (hb hby at_69) rfl ?_
      show Steps p.tables e below (T7.setTop (mkF m 71 #[.val (.long q1), .second, .val (.long q2), .second, .val (.int p3), .val (.ref b6), .val (.int (3 : Int32)), .unset, .unset] [(.int (3 : Int32))])) _
      refine XS.iconst X7.here hx rfl (hb hby at_71) ?_
      show Steps p.tables e below (T7.setTop (mkF m 72 #[.val (.long q1), .second, .val (.long q2), .second, .val (.int p3), .val (.ref b6), .val (.int (3 : Int32)), .unset, .unset] [(.int (2 : Int32)), (.int (3 : Int32))])) _
      refine XS.icmpYes X7.here hx rfl (pc0 := 72) (pc' := 84) rfl (hb hby at_72) rfl (feq ((by decide) : ¬ ((3 : Int32) = (2 : Int32)))).2 (by decide) (by decide) ?_
      show Steps p.tables e below (T7.setTop (mkF m 84 #[.val (.long q1), .second, .val (.long q2), .second, .val (.int p3), .val (.ref b6), .val (.int (3 : Int32)), .unset, .unset] [])) _
      refine XS.lloadN X7.here hx rfl (hb hby at_84) rfl ?_
      exact kt)
    by_cases h1 : (lcmpW q1 (-128 : Int64)) < (0 : Int32)
    · obtain ⟨_, _, ⟨T31, L31, k31, n31⟩, -, X31, ⟨Lc31, hQ31, l31, y31, z31⟩, st31⟩ := Jvm.LawKit.callS X7 hx (y := (⟨"java/lang/Long", "valueOf", "(J)Ljava/lang/Long;"⟩ : MethodName)) hown (mvT hZ (hw _ (List.mem_of_getElem? (i := 28) rfl))) (mvT hZ (hw _ (List.mem_of_getElem? (i := 29) rfl))) (mvT hZ (hw _ (List.mem_of_getElem? (i := 30) rfl))) (mvT hZ (hw _ (List.mem_of_getElem? (i := 31) rfl))) (by decide) (backOf (W := 0) (rm6 l Z a0 hw [] q1 T7.heap n0 O7 h1) hZ (hw _ (List.mem_of_getElem? (i := 31) rfl)) (hw _ (List.mem_of_getElem? (i := 30) rfl)) (by decide) (by decide)) (g := (mkF m 85 #[.val (.long q1), .second, .val (.long q2), .second, .val (.int p3), .val (.ref b6), .val (.int (3 : Int32)), .unset, .unset] [(.long q1)])) rfl (by rw [hml]; rfl) (argsL := [(.long q1)]) (rest := []) (lenOf pd_8 rfl) rfl (by show 2 * 0 + _ ≤ _; exact Nat.le_of_eq rfl) (hb hby at_85) (fun _ _ => ⟨rfl, rfl, (by decide : 1 + 1 ≤ _), (by decide : 1 + 1 ≤ _)⟩)
      dsimp only [Pt.U, Pt.locs, Pt.cells, Pt.slots] at X31 l31 y31 z31 st31 hQ31
      subst l31 y31 z31
      obtain ⟨b32, rfl, Nq31, K31, sq31_b32, P31_0, P31_1⟩ := hQ31
      have N31 := Fr.app N7 Nq31
      have ne33 : b6 ≠ b32 := (own_ltn P7_0.lt sq31_b32)
      have g_b32 : n0 ≤ b32 := own_born O7 sq31_b32
      have sz_b32 : h0.size ≤ b32 := Nat.le_trans KK7.1 sq31_b32
      have KK31 : Keep h0 T31.heap [] := Keep.trans (h := T7.heap) KK7 K31 all0
      have O31 : Old Z n0 T31.heap := O7.keep K31 all0
      have f35 : Exa Z T31.heap b6 "com/example/drowsy_thunk/drowsythunk/eval/IntValue" := (P7_0.keep K31)
      obtain ⟨cq34, kq34, q34a, q34b, q34c⟩ := isOf hZ rfl f35
      obtain ⟨_, _, ⟨T34, L34, k34, n34⟩, -, X34, ⟨Lc34, hQ34, l34, y34, z34⟩, st34⟩ := X31.virtualBack hx (y := (⟨"com/example/drowsy_thunk/drowsythunk/eval/IntValue", "equals", "(Ljava/lang/Object;)Z"⟩ : MethodName)) (z := (⟨"com/example/drowsy_thunk/drowsythunk/eval/IntValue", "equals", "(Ljava/lang/Object;)Z"⟩ : MethodName)) hown (mvT hZ (hw _ (List.mem_of_getElem? (i := 21) rfl))) (mvT hZ (hw _ (List.mem_of_getElem? (i := 22) rfl))) (notFace_of_selects (args := #[]) (mvT hZ (hw _ (List.mem_of_getElem? (i := 24) rfl)))) (mvT hZ (hw _ (List.mem_of_getElem? (i := 24) rfl))) (mvT hZ (hw _ (List.mem_of_getElem? (i := 23) rfl))) (by decide) (backOf (W := 0) (rm5_3 l Z a0 hw [] b6 b32 T31.heap n0 O31 P31_0) hZ (hw _ (List.mem_of_getElem? (i := 25) rfl)) (hw _ (List.mem_of_getElem? (i := 2) rfl)) (by decide) (by decide)) q34a q34c (g := (mkF m 97 #[.val (.long q1), .second, .val (.long q2), .second, .val (.int p3), .val (.ref b6), .val (.int (3 : Int32)), .val (.ref b32), .val (.int (0 : Int32))] [(.ref b32), (.ref b6)])) rfl (by rw [hml]; rfl) (Steps.refl _) (argsL := [(.ref b32)]) (rest := []) (lenOf pd_5 rfl) rfl (by show 2 * 0 + _ ≤ _; exact Nat.le_of_eq rfl) (hb hby at_97) (fun _ _ => ⟨rfl, rfl, (by decide : 2 + 0 ≤ _), (by decide : 2 + 0 ≤ _)⟩)
      dsimp only [Pt.U, Pt.locs, Pt.cells, Pt.slots] at X34 l34 y34 z34 st34 hQ34
      subst l34 y34 z34
      obtain ⟨rfl, Nq34, e34⟩ := hQ34
      have N34 := Fr.app N31 Nq34
      have f36 : Fld Z T31.heap b6 "com/example/drowsy_thunk/drowsythunk/eval/IntValue" "value" "J" (.long q1) := (P7_1.keep K31 nin0)
      obtain ⟨cq37, kq37, q37a, q37b, q37c⟩ := isOf hZ e34 f35
      obtain ⟨_, _, ⟨T37, L37, k37, n37⟩, -, X37, ⟨Lc37, hQ37, l37, y37, z37⟩, st37⟩ := X34.virtualBack hx (y := (⟨"com/example/drowsy_thunk/drowsythunk/eval/IntValue", "equals", "(Ljava/lang/Object;)Z"⟩ : MethodName)) (z := (⟨"com/example/drowsy_thunk/drowsythunk/eval/IntValue", "equals", "(Ljava/lang/Object;)Z"⟩ : MethodName)) hown (mvT hZ (hw _ (List.mem_of_getElem? (i := 21) rfl))) (mvT hZ (hw _ (List.mem_of_getElem? (i := 22) rfl))) (notFace_of_selects (args := #[]) (mvT hZ (hw _ (List.mem_of_getElem? (i := 24) rfl)))) (mvT hZ (hw _ (List.mem_of_getElem? (i := 24) rfl))) (mvT hZ (hw _ (List.mem_of_getElem? (i := 23) rfl))) (by decide) (backOf (W := 0) (rm5 l Z a0 hw [] b6 b6 q1 q1 T31.heap n0 O31 f35 f36 f36 ((lw_eq _ _).mpr rfl)) hZ (hw _ (List.mem_of_getElem? (i := 25) rfl)) (hw _ (List.mem_of_getElem? (i := 2) rfl)) (by decide) (by decide)) q37a q37c (g := (mkF m 109 #[.val (.long q1), .second, .val (.long q2), .second, .val (.int p3), .val (.ref b6), .val (.int (3 : Int32)), .val (.ref b32), .val (.int (0 : Int32))] [(.ref b6), (.ref b6)])) rfl (by rw [hml]; rfl) (Steps.refl _) (argsL := [(.ref b6)]) (rest := []) (lenOf pd_5 rfl) rfl (by show 2 * 0 + _ ≤ _; exact Nat.le_of_eq rfl) (hb hby at_109) (fun _ _ => ⟨rfl, e34, (by decide : 2 + 0 ≤ _), (by decide : 2 + 0 ≤ _)⟩)
      dsimp only [Pt.U, Pt.locs, Pt.cells, Pt.slots] at X37 l37 y37 z37 st37 hQ37
      subst l37 y37 z37
      obtain ⟨rfl, Nq37, e37⟩ := hQ37
      have N37 := Fr.app N34 Nq37
      obtain ⟨fs, hr, hrun, hended, hW, hsame⟩ := X37.leave (v := some (.int (1 : Int32))) (fun h => by rw [Bd.returns] at h; cases h)
      refine ⟨_, _, pre30 _ ?_, hrun, hended, _, _, rfl, ?_, ⟨_, rfl⟩, hW, hsame.mono (by decide) (by decide)⟩
      · show Steps p.tables e below (T7.setTop (mkF m 85 #[.val (.long q1), .second, .val (.long q2), .second, .val (.int p3), .val (.ref b6), .val (.int (3 : Int32)), .unset, .unset] [(.long q1)])) _
        refine st31 _ ?_
        show Steps p.tables e below (T31.setTop (mkF m 88 #[.val (.long q1), .second, .val (.long q2), .second, .val (.int p3), .val (.ref b6), .val (.int (3 : Int32)), .unset, .unset] [(.ref b32)])) _
        refine XS.astore X31.here hx rfl (hb hby at_88) rfl rfl (l' := #[.val (.long q1), .second, .val (.long q2), .second, .val (.int p3), .val (.ref b6), .val (.int (3 : Int32)), .val (.ref b32), .unset]) rfl ?_
        show Steps p.tables e below (T31.setTop (mkF m 90 #[.val (.long q1), .second, .val (.long q2), .second, .val (.int p3), .val (.ref b6), .val (.int (3 : Int32)), .val (.ref b32), .unset] [])) _
        refine XS.iconst X31.here hx rfl (hb hby at_90) ?_
        show Steps p.tables e below (T31.setTop (mkF m 91 #[.val (.long q1), .second, .val (.long q2), .second, .val (.int p3), .val (.ref b6), .val (.int (3 : Int32)), .val (.ref b32), .unset] [(.int (0 : Int32))])) _
        refine XS.istore X31.here hx rfl (hb hby at_91) rfl (l' := #[.val (.long q1), .second, .val (.long q2), .second, .val (.int p3), .val (.ref b6), .val (.int (3 : Int32)), .val (.ref b32), .val (.int (0 : Int32))]) rfl ?_
        show Steps p.tables e below (T31.setTop (mkF m 93 #[.val (.long q1), .second, .val (.long q2), .second, .val (.int p3), .val (.ref b6), .val (.int (3 : Int32)), .val (.ref b32), .val (.int (0 : Int32))] [])) _
        refine XS.aload X31.here hx rfl (hb hby at_93) rfl rfl ?_
        show Steps p.tables e below (T31.setTop (mkF m 95 #[.val (.long q1), .second, .val (.long q2), .second, .val (.int p3), .val (.ref b6), .val (.int (3 : Int32)), .val (.ref b32), .val (.int (0 : Int32))] [(.ref b6)])) _
        refine XS.aload X31.here hx rfl (hb hby at_95) rfl rfl ?_
        show Steps p.tables e below (T31.setTop (mkF m 97 #[.val (.long q1), .second, .val (.long q2), .second, .val (.int p3), .val (.ref b6), .val (.int (3 : Int32)), .val (.ref b32), .val (.int (0 : Int32))] [(.ref b32), (.ref b6)])) _
        refine st34.trans ?_
        show Steps p.tables e below (T34.setTop (mkF m 100 #[.val (.long q1), .second, .val (.long q2), .second, .val (.int p3), .val (.ref b6), .val (.int (3 : Int32)), .val (.ref b32), .val (.int (0 : Int32))] [(.int (0 : Int32))])) _
        refine XS.iload X34.here hx rfl (hb hby at_100) rfl ?_
        show Steps p.tables e below (T34.setTop (mkF m 102 #[.val (.long q1), .second, .val (.long q2), .second, .val (.int p3), .val (.ref b6), .val (.int (3 : Int32)), .val (.ref b32), .val (.int (0 : Int32))] [(.int (0 : Int32)), (.int (0 : Int32))])) _
        refine XS.icmpNo X34.here hx rfl (hb hby at_102) rfl (teq ((by decide) : (0 : Int32) = (0 : Int32))).2 ?_
        show Steps p.tables e below (T34.setTop (mkF m 105 #[.val (.long q1), .second, .val (.long q2), .second, .val (.int p3), .val (.ref b6), .val (.int (3 : Int32)), .val (.ref b32), .val (.int (0 : Int32))] [])) _
        refine XS.aload X34.here hx rfl (hb hby at_105) rfl rfl ?_
        show Steps p.tables e below (T34.setTop (mkF m 107 #[.val (.long q1), .second, .val (.long q2), .second, .val (.int p3), .val (.ref b6), .val (.int (3 : Int32)), .val (.ref b32), .val (.int (0 : Int32))] [(.ref b6)])) _
        refine XS.aload X34.here hx rfl (hb hby at_107) rfl rfl ?_
        show Steps p.tables e below (T34.setTop (mkF m 109 #[.val (.long q1), .second, .val (.long q2), .second, .val (.int p3), .val (.ref b6), .val (.int (3 : Int32)), .val (.ref b32), .val (.int (0 : Int32))] [(.ref b6), (.ref b6)])) _
        refine st37.trans ?_
        show Steps p.tables e below (T37.setTop (mkF m 112 #[.val (.long q1), .second, .val (.long q2), .second, .val (.int p3), .val (.ref b6), .val (.int (3 : Int32)), .val (.ref b32), .val (.int (0 : Int32))] [(.int (1 : Int32))])) _
        refine XS.ifNo X37.here hx rfl (hb hby at_112) rfl ((if0 _ _).trans (feq ((by decide) : ¬ ((1 : Int32) = (0 : Int32)))).1) ?_
        show Steps p.tables e below (T37.setTop (mkF m 115 #[.val (.long q1), .second, .val (.long q2), .second, .val (.int p3), .val (.ref b6), .val (.int (3 : Int32)), .val (.ref b32), .val (.int (0 : Int32))] [])) _
        refine XS.iconst X37.here hx rfl (hb hby at_115) ?_
        show Steps p.tables e below (T37.setTop (mkF m 116 #[.val (.long q1), .second, .val (.long q2), .second, .val (.int p3), .val (.ref b6), .val (.int (3 : Int32)), .val (.ref b32), .val (.int (0 : Int32))] [(.int (1 : Int32))])) _
        refine XS.goto X37.here hx rfl (pc0 := 116) (pc' := 120) rfl (hb hby at_116) (by decide) (by decide) ?_
        show Steps p.tables e below (T37.setTop (mkF m 120 #[.val (.long q1), .second, .val (.long q2), .second, .val (.int p3), .val (.ref b6), .val (.int (3 : Int32)), .val (.ref b32), .val (.int (0 : Int32))] [(.int (1 : Int32))])) _
        exact retN X37 hx (t := .boolean) Bd.returns (by simp) (hb hby at_120) hr
      · show Qrm0 Z q1 q2 p3 w4 cl5 h0 n0 _ T37.heap _
        exact ⟨rfl, N37⟩
    · by_cases h2 : (0 : Int32) < (lcmpW q1 (127 : Int64))
      · obtain ⟨_, _, ⟨T38, L38, k38, n38⟩, -, X38, ⟨Lc38, hQ38, l38, y38, z38⟩, st38⟩ := Jvm.LawKit.callS X7 hx (y := (⟨"java/lang/Long", "valueOf", "(J)Ljava/lang/Long;"⟩ : MethodName)) hown (mvT hZ (hw _ (List.mem_of_getElem? (i := 28) rfl))) (mvT hZ (hw _ (List.mem_of_getElem? (i := 29) rfl))) (mvT hZ (hw _ (List.mem_of_getElem? (i := 30) rfl))) (mvT hZ (hw _ (List.mem_of_getElem? (i := 31) rfl))) (by decide) (backOf (W := 0) (rm6_1 l Z a0 hw [] q1 T7.heap n0 O7 h1 h2) hZ (hw _ (List.mem_of_getElem? (i := 31) rfl)) (hw _ (List.mem_of_getElem? (i := 30) rfl)) (by decide) (by decide)) (g := (mkF m 85 #[.val (.long q1), .second, .val (.long q2), .second, .val (.int p3), .val (.ref b6), .val (.int (3 : Int32)), .unset, .unset] [(.long q1)])) rfl (by rw [hml]; rfl) (argsL := [(.long q1)]) (rest := []) (lenOf pd_8 rfl) rfl (by show 2 * 0 + _ ≤ _; exact Nat.le_of_eq rfl) (hb hby at_85) (fun _ _ => ⟨rfl, rfl, (by decide : 1 + 1 ≤ _), (by decide : 1 + 1 ≤ _)⟩)
        dsimp only [Pt.U, Pt.locs, Pt.cells, Pt.slots] at X38 l38 y38 z38 st38 hQ38
        subst l38 y38 z38
        obtain ⟨b39, rfl, Nq38, K38, sq38_b39, P38_0, P38_1⟩ := hQ38
        have N38 := Fr.app N7 Nq38
        have ne40 : b6 ≠ b39 := (own_ltn P7_0.lt sq38_b39)
        have g_b39 : n0 ≤ b39 := own_born O7 sq38_b39
        have sz_b39 : h0.size ≤ b39 := Nat.le_trans KK7.1 sq38_b39
        have KK38 : Keep h0 T38.heap [] := Keep.trans (h := T7.heap) KK7 K38 all0
        have O38 : Old Z n0 T38.heap := O7.keep K38 all0
        have f42 : Exa Z T38.heap b6 "com/example/drowsy_thunk/drowsythunk/eval/IntValue" := (P7_0.keep K38)
        obtain ⟨cq41, kq41, q41a, q41b, q41c⟩ := isOf hZ rfl f42
        obtain ⟨_, _, ⟨T41, L41, k41, n41⟩, -, X41, ⟨Lc41, hQ41, l41, y41, z41⟩, st41⟩ := X38.virtualBack hx (y := (⟨"com/example/drowsy_thunk/drowsythunk/eval/IntValue", "equals", "(Ljava/lang/Object;)Z"⟩ : MethodName)) (z := (⟨"com/example/drowsy_thunk/drowsythunk/eval/IntValue", "equals", "(Ljava/lang/Object;)Z"⟩ : MethodName)) hown (mvT hZ (hw _ (List.mem_of_getElem? (i := 21) rfl))) (mvT hZ (hw _ (List.mem_of_getElem? (i := 22) rfl))) (notFace_of_selects (args := #[]) (mvT hZ (hw _ (List.mem_of_getElem? (i := 24) rfl)))) (mvT hZ (hw _ (List.mem_of_getElem? (i := 24) rfl))) (mvT hZ (hw _ (List.mem_of_getElem? (i := 23) rfl))) (by decide) (backOf (W := 0) (rm5_3 l Z a0 hw [] b6 b39 T38.heap n0 O38 P38_0) hZ (hw _ (List.mem_of_getElem? (i := 25) rfl)) (hw _ (List.mem_of_getElem? (i := 2) rfl)) (by decide) (by decide)) q41a q41c (g := (mkF m 97 #[.val (.long q1), .second, .val (.long q2), .second, .val (.int p3), .val (.ref b6), .val (.int (3 : Int32)), .val (.ref b39), .val (.int (0 : Int32))] [(.ref b39), (.ref b6)])) rfl (by rw [hml]; rfl) (Steps.refl _) (argsL := [(.ref b39)]) (rest := []) (lenOf pd_5 rfl) rfl (by show 2 * 0 + _ ≤ _; exact Nat.le_of_eq rfl) (hb hby at_97) (fun _ _ => ⟨rfl, rfl, (by decide : 2 + 0 ≤ _), (by decide : 2 + 0 ≤ _)⟩)
        dsimp only [Pt.U, Pt.locs, Pt.cells, Pt.slots] at X41 l41 y41 z41 st41 hQ41
        subst l41 y41 z41
        obtain ⟨rfl, Nq41, e41⟩ := hQ41
        have N41 := Fr.app N38 Nq41
        have f43 : Fld Z T38.heap b6 "com/example/drowsy_thunk/drowsythunk/eval/IntValue" "value" "J" (.long q1) := (P7_1.keep K38 nin0)
        obtain ⟨cq44, kq44, q44a, q44b, q44c⟩ := isOf hZ e41 f42
        obtain ⟨_, _, ⟨T44, L44, k44, n44⟩, -, X44, ⟨Lc44, hQ44, l44, y44, z44⟩, st44⟩ := X41.virtualBack hx (y := (⟨"com/example/drowsy_thunk/drowsythunk/eval/IntValue", "equals", "(Ljava/lang/Object;)Z"⟩ : MethodName)) (z := (⟨"com/example/drowsy_thunk/drowsythunk/eval/IntValue", "equals", "(Ljava/lang/Object;)Z"⟩ : MethodName)) hown (mvT hZ (hw _ (List.mem_of_getElem? (i := 21) rfl))) (mvT hZ (hw _ (List.mem_of_getElem? (i := 22) rfl))) (notFace_of_selects (args := #[]) (mvT hZ (hw _ (List.mem_of_getElem? (i := 24) rfl)))) (mvT hZ (hw _ (List.mem_of_getElem? (i := 24) rfl))) (mvT hZ (hw _ (List.mem_of_getElem? (i := 23) rfl))) (by decide) (backOf (W := 0) (rm5 l Z a0 hw [] b6 b6 q1 q1 T38.heap n0 O38 f42 f43 f43 ((lw_eq _ _).mpr rfl)) hZ (hw _ (List.mem_of_getElem? (i := 25) rfl)) (hw _ (List.mem_of_getElem? (i := 2) rfl)) (by decide) (by decide)) q44a q44c (g := (mkF m 109 #[.val (.long q1), .second, .val (.long q2), .second, .val (.int p3), .val (.ref b6), .val (.int (3 : Int32)), .val (.ref b39), .val (.int (0 : Int32))] [(.ref b6), (.ref b6)])) rfl (by rw [hml]; rfl) (Steps.refl _) (argsL := [(.ref b6)]) (rest := []) (lenOf pd_5 rfl) rfl (by show 2 * 0 + _ ≤ _; exact Nat.le_of_eq rfl) (hb hby at_109) (fun _ _ => ⟨rfl, e41, (by decide : 2 + 0 ≤ _), (by decide : 2 + 0 ≤ _)⟩)
        dsimp only [Pt.U, Pt.locs, Pt.cells, Pt.slots] at X44 l44 y44 z44 st44 hQ44
        subst l44 y44 z44
        obtain ⟨rfl, Nq44, e44⟩ := hQ44
        have N44 := Fr.app N41 Nq44
        obtain ⟨fs, hr, hrun, hended, hW, hsame⟩ := X44.leave (v := some (.int (1 : Int32))) (fun h => by rw [Bd.returns] at h; cases h)
        refine ⟨_, _, pre30 _ ?_, hrun, hended, _, _, rfl, ?_, ⟨_, rfl⟩, hW, hsame.mono (by decide) (by decide)⟩
        · show Steps p.tables e below (T7.setTop (mkF m 85 #[.val (.long q1), .second, .val (.long q2), .second, .val (.int p3), .val (.ref b6), .val (.int (3 : Int32)), .unset, .unset] [(.long q1)])) _
          refine st38 _ ?_
          show Steps p.tables e below (T38.setTop (mkF m 88 #[.val (.long q1), .second, .val (.long q2), .second, .val (.int p3), .val (.ref b6), .val (.int (3 : Int32)), .unset, .unset] [(.ref b39)])) _
          refine XS.astore X38.here hx rfl (hb hby at_88) rfl rfl (l' := #[.val (.long q1), .second, .val (.long q2), .second, .val (.int p3), .val (.ref b6), .val (.int (3 : Int32)), .val (.ref b39), .unset]) rfl ?_
          show Steps p.tables e below (T38.setTop (mkF m 90 #[.val (.long q1), .second, .val (.long q2), .second, .val (.int p3), .val (.ref b6), .val (.int (3 : Int32)), .val (.ref b39), .unset] [])) _
          refine XS.iconst X38.here hx rfl (hb hby at_90) ?_
          show Steps p.tables e below (T38.setTop (mkF m 91 #[.val (.long q1), .second, .val (.long q2), .second, .val (.int p3), .val (.ref b6), .val (.int (3 : Int32)), .val (.ref b39), .unset] [(.int (0 : Int32))])) _
          refine XS.istore X38.here hx rfl (hb hby at_91) rfl (l' := #[.val (.long q1), .second, .val (.long q2), .second, .val (.int p3), .val (.ref b6), .val (.int (3 : Int32)), .val (.ref b39), .val (.int (0 : Int32))]) rfl ?_
          show Steps p.tables e below (T38.setTop (mkF m 93 #[.val (.long q1), .second, .val (.long q2), .second, .val (.int p3), .val (.ref b6), .val (.int (3 : Int32)), .val (.ref b39), .val (.int (0 : Int32))] [])) _
          refine XS.aload X38.here hx rfl (hb hby at_93) rfl rfl ?_
          show Steps p.tables e below (T38.setTop (mkF m 95 #[.val (.long q1), .second, .val (.long q2), .second, .val (.int p3), .val (.ref b6), .val (.int (3 : Int32)), .val (.ref b39), .val (.int (0 : Int32))] [(.ref b6)])) _
          refine XS.aload X38.here hx rfl (hb hby at_95) rfl rfl ?_
          show Steps p.tables e below (T38.setTop (mkF m 97 #[.val (.long q1), .second, .val (.long q2), .second, .val (.int p3), .val (.ref b6), .val (.int (3 : Int32)), .val (.ref b39), .val (.int (0 : Int32))] [(.ref b39), (.ref b6)])) _
          refine st41.trans ?_
          show Steps p.tables e below (T41.setTop (mkF m 100 #[.val (.long q1), .second, .val (.long q2), .second, .val (.int p3), .val (.ref b6), .val (.int (3 : Int32)), .val (.ref b39), .val (.int (0 : Int32))] [(.int (0 : Int32))])) _
          refine XS.iload X41.here hx rfl (hb hby at_100) rfl ?_
          show Steps p.tables e below (T41.setTop (mkF m 102 #[.val (.long q1), .second, .val (.long q2), .second, .val (.int p3), .val (.ref b6), .val (.int (3 : Int32)), .val (.ref b39), .val (.int (0 : Int32))] [(.int (0 : Int32)), (.int (0 : Int32))])) _
          refine XS.icmpNo X41.here hx rfl (hb hby at_102) rfl (teq ((by decide) : (0 : Int32) = (0 : Int32))).2 ?_
          show Steps p.tables e below (T41.setTop (mkF m 105 #[.val (.long q1), .second, .val (.long q2), .second, .val (.int p3), .val (.ref b6), .val (.int (3 : Int32)), .val (.ref b39), .val (.int (0 : Int32))] [])) _
          refine XS.aload X41.here hx rfl (hb hby at_105) rfl rfl ?_
          show Steps p.tables e below (T41.setTop (mkF m 107 #[.val (.long q1), .second, .val (.long q2), .second, .val (.int p3), .val (.ref b6), .val (.int (3 : Int32)), .val (.ref b39), .val (.int (0 : Int32))] [(.ref b6)])) _
          refine XS.aload X41.here hx rfl (hb hby at_107) rfl rfl ?_
          show Steps p.tables e below (T41.setTop (mkF m 109 #[.val (.long q1), .second, .val (.long q2), .second, .val (.int p3), .val (.ref b6), .val (.int (3 : Int32)), .val (.ref b39), .val (.int (0 : Int32))] [(.ref b6), (.ref b6)])) _
          refine st44.trans ?_
          show Steps p.tables e below (T44.setTop (mkF m 112 #[.val (.long q1), .second, .val (.long q2), .second, .val (.int p3), .val (.ref b6), .val (.int (3 : Int32)), .val (.ref b39), .val (.int (0 : Int32))] [(.int (1 : Int32))])) _
          refine XS.ifNo X44.here hx rfl (hb hby at_112) rfl ((if0 _ _).trans (feq ((by decide) : ¬ ((1 : Int32) = (0 : Int32)))).1) ?_
          show Steps p.tables e below (T44.setTop (mkF m 115 #[.val (.long q1), .second, .val (.long q2), .second, .val (.int p3), .val (.ref b6), .val (.int (3 : Int32)), .val (.ref b39), .val (.int (0 : Int32))] [])) _
          refine XS.iconst X44.here hx rfl (hb hby at_115) ?_
          show Steps p.tables e below (T44.setTop (mkF m 116 #[.val (.long q1), .second, .val (.long q2), .second, .val (.int p3), .val (.ref b6), .val (.int (3 : Int32)), .val (.ref b39), .val (.int (0 : Int32))] [(.int (1 : Int32))])) _
          refine XS.goto X44.here hx rfl (pc0 := 116) (pc' := 120) rfl (hb hby at_116) (by decide) (by decide) ?_
          show Steps p.tables e below (T44.setTop (mkF m 120 #[.val (.long q1), .second, .val (.long q2), .second, .val (.int p3), .val (.ref b6), .val (.int (3 : Int32)), .val (.ref b39), .val (.int (0 : Int32))] [(.int (1 : Int32))])) _
          exact retN X44 hx (t := .boolean) Bd.returns (by simp) (hb hby at_120) hr
        · show Qrm0 Z q1 q2 p3 w4 cl5 h0 n0 _ T44.heap _
          exact ⟨rfl, N44⟩
      · obtain ⟨hj0, hj1⟩ := own_boxJ q1 h1 h2
        obtain ⟨_, _, ⟨T45, L45, k45, n45⟩, -, X45, ⟨Lc45, hQ45, l45, y45, z45⟩, st45⟩ := Jvm.LawKit.callS X7 hx (y := (⟨"java/lang/Long", "valueOf", "(J)Ljava/lang/Long;"⟩ : MethodName)) hown (mvT hZ (hw _ (List.mem_of_getElem? (i := 28) rfl))) (mvT hZ (hw _ (List.mem_of_getElem? (i := 29) rfl))) (mvT hZ (hw _ (List.mem_of_getElem? (i := 30) rfl))) (mvT hZ (hw _ (List.mem_of_getElem? (i := 31) rfl))) (by decide) (backOf (W := 0) (rm6_2 l Z a0 hw [] q1 w4 cl5 T7.heap n0 O7 h1 h2 S_c B_c hj0 hj1) hZ (hw _ (List.mem_of_getElem? (i := 31) rfl)) (hw _ (List.mem_of_getElem? (i := 30) rfl)) (by decide) (by decide)) (g := (mkF m 85 #[.val (.long q1), .second, .val (.long q2), .second, .val (.int p3), .val (.ref b6), .val (.int (3 : Int32)), .unset, .unset] [(.long q1)])) rfl (by rw [hml]; rfl) (argsL := [(.long q1)]) (rest := []) (lenOf pd_8 rfl) rfl (by show 2 * 0 + _ ≤ _; exact Nat.le_of_eq rfl) (hb hby at_85) (fun _ _ => ⟨rfl, rfl, (by decide : 1 + 0 ≤ _), (by decide : 1 + 0 ≤ _)⟩)
        dsimp only [Pt.U, Pt.locs, Pt.cells, Pt.slots] at X45 l45 y45 z45 st45 hQ45
        subst l45 y45 z45
        obtain ⟨o46, rfl, Nq45, e45, P45_0⟩ := hQ45
        have N45 := Fr.app N7 Nq45
        obtain ⟨cq47, kq47, q47a, q47b, q47c⟩ := isOf hZ e45 P7_0
        obtain ⟨_, _, ⟨T47, L47, k47, n47⟩, -, X47, ⟨Lc47, hQ47, l47, y47, z47⟩, st47⟩ := X45.virtualBack hx (y := (⟨"com/example/drowsy_thunk/drowsythunk/eval/IntValue", "equals", "(Ljava/lang/Object;)Z"⟩ : MethodName)) (z := (⟨"com/example/drowsy_thunk/drowsythunk/eval/IntValue", "equals", "(Ljava/lang/Object;)Z"⟩ : MethodName)) hown (mvT hZ (hw _ (List.mem_of_getElem? (i := 21) rfl))) (mvT hZ (hw _ (List.mem_of_getElem? (i := 22) rfl))) (notFace_of_selects (args := #[]) (mvT hZ (hw _ (List.mem_of_getElem? (i := 24) rfl)))) (mvT hZ (hw _ (List.mem_of_getElem? (i := 24) rfl))) (mvT hZ (hw _ (List.mem_of_getElem? (i := 23) rfl))) (by decide) (backOf (W := 0) (rm5_4 l Z a0 hw [] b6 o46 T7.heap n0 O7 P45_0) hZ (hw _ (List.mem_of_getElem? (i := 25) rfl)) (hw _ (List.mem_of_getElem? (i := 2) rfl)) (by decide) (by decide)) q47a q47c (g := (mkF m 97 #[.val (.long q1), .second, .val (.long q2), .second, .val (.int p3), .val (.ref b6), .val (.int (3 : Int32)), .val (.ref o46), .val (.int (0 : Int32))] [(.ref o46), (.ref b6)])) rfl (by rw [hml]; rfl) (Steps.refl _) (argsL := [(.ref o46)]) (rest := []) (lenOf pd_5 rfl) rfl (by show 2 * 0 + _ ≤ _; exact Nat.le_of_eq rfl) (hb hby at_97) (fun _ _ => ⟨rfl, e45, (by decide : 1 + 0 ≤ _), (by decide : 1 + 0 ≤ _)⟩)
        dsimp only [Pt.U, Pt.locs, Pt.cells, Pt.slots] at X47 l47 y47 z47 st47 hQ47
        subst l47 y47 z47
        obtain ⟨rfl, Nq47, e47⟩ := hQ47
        have N47 := Fr.app N45 Nq47
        obtain ⟨cq48, kq48, q48a, q48b, q48c⟩ := isOf hZ e47 P7_0
        obtain ⟨_, _, ⟨T48, L48, k48, n48⟩, -, X48, ⟨Lc48, hQ48, l48, y48, z48⟩, st48⟩ := X47.virtualBack hx (y := (⟨"com/example/drowsy_thunk/drowsythunk/eval/IntValue", "equals", "(Ljava/lang/Object;)Z"⟩ : MethodName)) (z := (⟨"com/example/drowsy_thunk/drowsythunk/eval/IntValue", "equals", "(Ljava/lang/Object;)Z"⟩ : MethodName)) hown (mvT hZ (hw _ (List.mem_of_getElem? (i := 21) rfl))) (mvT hZ (hw _ (List.mem_of_getElem? (i := 22) rfl))) (notFace_of_selects (args := #[]) (mvT hZ (hw _ (List.mem_of_getElem? (i := 24) rfl)))) (mvT hZ (hw _ (List.mem_of_getElem? (i := 24) rfl))) (mvT hZ (hw _ (List.mem_of_getElem? (i := 23) rfl))) (by decide) (backOf (W := 0) (rm5 l Z a0 hw [] b6 b6 q1 q1 T7.heap n0 O7 P7_0 P7_1 P7_1 ((lw_eq _ _).mpr rfl)) hZ (hw _ (List.mem_of_getElem? (i := 25) rfl)) (hw _ (List.mem_of_getElem? (i := 2) rfl)) (by decide) (by decide)) q48a q48c (g := (mkF m 109 #[.val (.long q1), .second, .val (.long q2), .second, .val (.int p3), .val (.ref b6), .val (.int (3 : Int32)), .val (.ref o46), .val (.int (0 : Int32))] [(.ref b6), (.ref b6)])) rfl (by rw [hml]; rfl) (Steps.refl _) (argsL := [(.ref b6)]) (rest := []) (lenOf pd_5 rfl) rfl (by show 2 * 0 + _ ≤ _; exact Nat.le_of_eq rfl) (hb hby at_109) (fun _ _ => ⟨rfl, e47, (by decide : 1 + 0 ≤ _), (by decide : 1 + 0 ≤ _)⟩)
        dsimp only [Pt.U, Pt.locs, Pt.cells, Pt.slots] at X48 l48 y48 z48 st48 hQ48
        subst l48 y48 z48
        obtain ⟨rfl, Nq48, e48⟩ := hQ48
        have N48 := Fr.app N47 Nq48
        obtain ⟨fs, hr, hrun, hended, hW, hsame⟩ := X48.leave (v := some (.int (1 : Int32))) (fun h => by rw [Bd.returns] at h; cases h)
        refine ⟨_, _, pre30 _ ?_, hrun, hended, _, _, rfl, ?_, ⟨_, rfl⟩, hW, hsame.mono (by decide) (by decide)⟩
        · show Steps p.tables e below (T7.setTop (mkF m 85 #[.val (.long q1), .second, .val (.long q2), .second, .val (.int p3), .val (.ref b6), .val (.int (3 : Int32)), .unset, .unset] [(.long q1)])) _
          refine st45 _ ?_
          show Steps p.tables e below (T45.setTop (mkF m 88 #[.val (.long q1), .second, .val (.long q2), .second, .val (.int p3), .val (.ref b6), .val (.int (3 : Int32)), .unset, .unset] [(.ref o46)])) _
          refine XS.astore X45.here hx rfl (hb hby at_88) rfl rfl (l' := #[.val (.long q1), .second, .val (.long q2), .second, .val (.int p3), .val (.ref b6), .val (.int (3 : Int32)), .val (.ref o46), .unset]) rfl ?_
          show Steps p.tables e below (T45.setTop (mkF m 90 #[.val (.long q1), .second, .val (.long q2), .second, .val (.int p3), .val (.ref b6), .val (.int (3 : Int32)), .val (.ref o46), .unset] [])) _
          refine XS.iconst X45.here hx rfl (hb hby at_90) ?_
          show Steps p.tables e below (T45.setTop (mkF m 91 #[.val (.long q1), .second, .val (.long q2), .second, .val (.int p3), .val (.ref b6), .val (.int (3 : Int32)), .val (.ref o46), .unset] [(.int (0 : Int32))])) _
          refine XS.istore X45.here hx rfl (hb hby at_91) rfl (l' := #[.val (.long q1), .second, .val (.long q2), .second, .val (.int p3), .val (.ref b6), .val (.int (3 : Int32)), .val (.ref o46), .val (.int (0 : Int32))]) rfl ?_
          show Steps p.tables e below (T45.setTop (mkF m 93 #[.val (.long q1), .second, .val (.long q2), .second, .val (.int p3), .val (.ref b6), .val (.int (3 : Int32)), .val (.ref o46), .val (.int (0 : Int32))] [])) _
          refine XS.aload X45.here hx rfl (hb hby at_93) rfl rfl ?_
          show Steps p.tables e below (T45.setTop (mkF m 95 #[.val (.long q1), .second, .val (.long q2), .second, .val (.int p3), .val (.ref b6), .val (.int (3 : Int32)), .val (.ref o46), .val (.int (0 : Int32))] [(.ref b6)])) _
          refine XS.aload X45.here hx rfl (hb hby at_95) rfl rfl ?_
          show Steps p.tables e below (T45.setTop (mkF m 97 #[.val (.long q1), .second, .val (.long q2), .second, .val (.int p3), .val (.ref b6), .val (.int (3 : Int32)), .val (.ref o46), .val (.int (0 : Int32))] [(.ref o46), (.ref b6)])) _
          refine st47.trans ?_
          show Steps p.tables e below (T47.setTop (mkF m 100 #[.val (.long q1), .second, .val (.long q2), .second, .val (.int p3), .val (.ref b6), .val (.int (3 : Int32)), .val (.ref o46), .val (.int (0 : Int32))] [(.int (0 : Int32))])) _
          refine XS.iload X47.here hx rfl (hb hby at_100) rfl ?_
          show Steps p.tables e below (T47.setTop (mkF m 102 #[.val (.long q1), .second, .val (.long q2), .second, .val (.int p3), .val (.ref b6), .val (.int (3 : Int32)), .val (.ref o46), .val (.int (0 : Int32))] [(.int (0 : Int32)), (.int (0 : Int32))])) _
          refine XS.icmpNo X47.here hx rfl (hb hby at_102) rfl (teq ((by decide) : (0 : Int32) = (0 : Int32))).2 ?_
          show Steps p.tables e below (T47.setTop (mkF m 105 #[.val (.long q1), .second, .val (.long q2), .second, .val (.int p3), .val (.ref b6), .val (.int (3 : Int32)), .val (.ref o46), .val (.int (0 : Int32))] [])) _
          refine XS.aload X47.here hx rfl (hb hby at_105) rfl rfl ?_
          show Steps p.tables e below (T47.setTop (mkF m 107 #[.val (.long q1), .second, .val (.long q2), .second, .val (.int p3), .val (.ref b6), .val (.int (3 : Int32)), .val (.ref o46), .val (.int (0 : Int32))] [(.ref b6)])) _
          refine XS.aload X47.here hx rfl (hb hby at_107) rfl rfl ?_
          show Steps p.tables e below (T47.setTop (mkF m 109 #[.val (.long q1), .second, .val (.long q2), .second, .val (.int p3), .val (.ref b6), .val (.int (3 : Int32)), .val (.ref o46), .val (.int (0 : Int32))] [(.ref b6), (.ref b6)])) _
          refine st48.trans ?_
          show Steps p.tables e below (T48.setTop (mkF m 112 #[.val (.long q1), .second, .val (.long q2), .second, .val (.int p3), .val (.ref b6), .val (.int (3 : Int32)), .val (.ref o46), .val (.int (0 : Int32))] [(.int (1 : Int32))])) _
          refine XS.ifNo X48.here hx rfl (hb hby at_112) rfl ((if0 _ _).trans (feq ((by decide) : ¬ ((1 : Int32) = (0 : Int32)))).1) ?_
          show Steps p.tables e below (T48.setTop (mkF m 115 #[.val (.long q1), .second, .val (.long q2), .second, .val (.int p3), .val (.ref b6), .val (.int (3 : Int32)), .val (.ref o46), .val (.int (0 : Int32))] [])) _
          refine XS.iconst X48.here hx rfl (hb hby at_115) ?_
          show Steps p.tables e below (T48.setTop (mkF m 116 #[.val (.long q1), .second, .val (.long q2), .second, .val (.int p3), .val (.ref b6), .val (.int (3 : Int32)), .val (.ref o46), .val (.int (0 : Int32))] [(.int (1 : Int32))])) _
          refine XS.goto X48.here hx rfl (pc0 := 116) (pc' := 120) rfl (hb hby at_116) (by decide) (by decide) ?_
          show Steps p.tables e below (T48.setTop (mkF m 120 #[.val (.long q1), .second, .val (.long q2), .second, .val (.int p3), .val (.ref b6), .val (.int (3 : Int32)), .val (.ref o46), .val (.int (0 : Int32))] [(.int (1 : Int32))])) _
          exact retN X48 hx (t := .boolean) Bd.returns (by simp) (hb hby at_120) hr
        · show Qrm0 Z q1 q2 p3 w4 cl5 h0 n0 _ T48.heap _
          exact ⟨rfl, N48⟩
set_option maxRecDepth 65536 in
set_option maxHeartbeats 40000000 in
theorem comes_1 {Post : Tables → Env → Array Value → State → Outcome → State → Prop} (hpost : ∀ tb e args s v u, (limb_1_1.after args s (.returned v) u = true ∧ limb_1_2.after args s (.returned v) u = true ∧ True) → FrameEnd s (.returned v) u (Jvm.fieldLocs frame_1_writes args s ++ Jvm.arrayLocs frame_1_arrays args s ++ Jvm.staticLocs frame_1_statics s) 16 128 → Post tb e args s (.returned v) u) :
    ArmFor flags0 classFile x code maxLocals ret World_1 tables_1 room_1 Calls_1 rest_1 Pre_1 Post := by
  intro l hfl _ _ p e ha hc hk s m args below hf hA hF happ hP
  obtain ⟨hcalls, hrest, hpre⟩ := hP
  obtain ⟨-, -, -, hnamed, -, -, -, hat⟩ := (Spec.applies_iff hf).mp happ
  obtain ⟨hg, hn⟩ := and_e (Cond.before_iff.mp (show (Jvm.Cond.and given_1 narrow_1).before args s = true from hpre))
  obtain ⟨u0, u1⟩ := and_e hg
  obtain ⟨u2, u3⟩ := and_e u1
  obtain ⟨u4, u5⟩ := and_e u3
  obtain ⟨w0, w1, w2, rfl⟩ : ∃ w0 w1 w2 : Value, args = #[w0, w1, w2] := by
    have hs : args.size = 3 := by simpa [Cond.value, given_1] using u0
    obtain ⟨L⟩ := args
    match L, hs with
    | [w0, w1, w2], _ => exact ⟨w0, w1, w2, rfl⟩
  have hw := fun d (hd : d ∈ tables_1) => atoms_spec (ws := Jvm.Cond.code x code maxLocals ret :: tables_1) hat d (List.mem_cons_of_mem _ hd)
  have hfit : Fit s := fun {y c} hc i hi => by
    obtain ⟨ha, rfl⟩ := Array.getElem?_eq_some_iff.mp hc
    have q := List.all_eq_true.mp ((Array.all_eq_true_iff_forall_mem.mp hF) _ (Array.getElem_mem ha)) i (List.mem_range.mpr hi)
    simpa [Array.getElem?_eq_getElem hi] using q
  obtain ⟨hsets, hown0⟩ := atoms_of _ (rest_1_c_eq ▸ (show rest_1_c.before _ s = true from hrest))
  have hr0 := Cond.before_iff.mp hown0
  obtain ⟨i0, ei0⟩ := isL_v u2
  obtain rfl : w0 = (.long i0) := Option.some.inj ei0
  obtain ⟨i1, ei1⟩ := isL_v u4
  obtain rfl : w1 = (.long i1) := Option.some.inj ei1
  obtain ⟨i2, ei2⟩ := is_v u5
  obtain rfl : w2 = (.int i2) := Option.some.inj ei2
  obtain ⟨aC, evC⟩ := exa_v (Cond.before_iff.mp (hsets _ (List.mem_of_getElem? (i := 3) rfl)))
  obtain ⟨clC, AC⟩ := Arr.start evC (Cond.before_iff.mp (hsets _ (List.mem_of_getElem? (i := 2) rfl)))
  obtain ⟨qC, eC⟩ := own_size evC AC (Cond.before_iff.mp (hsets _ (List.mem_of_getElem? (i := 4) rfl)))
  have S_c : Sta s s.heap "java/lang/Long$LongCache" "cache" "[Ljava/lang/Long;" (.ref aC) := Sta.start evC (Or.inl (hsets _ (List.mem_of_getElem? (i := 1) rfl)))
  have B_c : Bxs s aC clC "java/lang/Long" "J" (256 : Int32) (fun j => .long (j - 128).toInt64) := Bxs.start (fun _ => evC) AC qC eC (by decide) (Cond.before_iff.mp (hsets _ (List.mem_of_getElem? (i := 5) rfl))) (fun X j hj h => eqv_l (i2l_at (Term.sub_int (idx_at hj) (Term.int_eval 128))) h)
  obtain ⟨n, o, h1, h2, h3, _, L, rfl, ⟨rfl, N⟩, hq⟩ := rm0 l s _ hw tables_1 i0 i1 i2 aC clC s.heap s.heap.size (Old.start s) S_c B_c p e ha hc hk s m _ below hf ((Spec.applies_iff_loose hf).mp happ).1 ⟨rfl, State.Warmed39.refl s, rfl⟩ trivial
  refine ⟨n, _, h1, h2, h3, hpost _ _ _ _ _ _ ⟨Cond.after_iff.mpr rfl, Cond.after_iff.mpr (eq_i res_at (Term.int_eval (1)) rfl), trivial⟩ ⟨hq.1, hq.2.1, (hq.2.2.sift fun y hy => Or.inr (N y hy)).mono (by decide) (by decide)⟩⟩
theorem main_1_1 : Claimed_1_1 := comes_1 fun _ _ _ _ _ _ h hF => ⟨h.1, hF⟩
theorem main_1_2 : Claimed_1_2 := comes_1 fun _ _ _ _ _ _ h hF => ⟨h.2.1, hF⟩
end Jvm.Pilot.@@N@@
namespace Jvm.Pilot.@@N@@
open Jvm Jvm.ClassFile Sem Op Lib Jvm.Free Jvm.Stand Jvm.Pilot.@@N@@.Jvm.D
/-! MADE BY PROGRAM (witnessworld.py) out of the Statement's table words and the real class files: 18 classes; the members and pool entries that the words name. The judged class is class 1, her method 1. -/
namespace start1
open Jvm.ClassFile
def u (s : String) : CpInfo := .utf8 (stringToUtf16 s)
/-- a pool by its gaps: so many unusable entries, then the entry; so many at the end -/
def gap : Nat → List CpInfo → List CpInfo
  | 0, r => r
  | n + 1, r => .unusable :: gap n r
def poolList (es : List (Nat × CpInfo)) (last : Nat) : List CpInfo := es.foldr (fun e r => gap e.1 (e.2 :: r)) (gap last [])
def pool (es : List (Nat × CpInfo)) (last : Nat) : Array CpInfo := ⟨poolList es last⟩
def fileOf (pool : Array CpInfo) (this : Nat) (attrs : Array Attribute := #[]) (ms : Array MethodInfo := #[]) (fl : Nat := 33) (sup : Nat := 0) (ifs : Array Nat := #[]) (fds : Array FieldInfo := #[]) : ClassFile where
  minorVersion := 0
  majorVersion := 65
  constantPool := pool
  accessFlags := fl
  thisClass := this
  superClass := sup
  interfaces := ifs
  fields := fds
  methods := ms
  attributes := attrs
def plain (name : String) (sup : Option ClassId) : Class where
  name := name
  kind := .ordinary
  loader := none
  accessFlags := 33
  super := sup
  interfaces := #[]
  cf := none
  fields := #[]
  methods := #[]
  instanceTypes := #[]
  staticTypes := #[]
  resolved := #[]
  callSites := []
  init := .initialized
  statics := none
  mirror := none

def pool0 : Array CpInfo := pool [(5, u "<init>"), (0, u "()V"), (1, .class_ 10), (1, u "java/lang/Object")] 113

def k0c0 : Code := { maxStack := 0, maxLocals := 1, code := object_method_1_code, exceptionTable := #[], attributes := #[] }
def k0m0 : Method := { name := "<init>", desc := "()V", sig := { parameters := [], returnType := none }, accessFlags := 1, code := some k0c0 }
/-- java/lang/Object -/
def k0 : Class := { plain "java/lang/Object" none with
  accessFlags := 33
  interfaces := #[]
  cf := some (fileOf pool0 8 #[] #[{ accessFlags := 1, nameIndex := 5, descriptorIndex := 6, attributes := #[] }] 33 0 #[] #[])
  fields := #[]
  methods := #[k0m0]
  instanceTypes := #[]
  staticTypes := #[]
  resolved := Array.replicate 124 none
  statics := none }

def pool1 : Array CpInfo := pool [(2, .class_ 4), (1, u "java/lang/Object"), (0, u "<init>"), (0, u "()V"), (0, .class_ 8), (0, u "com/example/drowsy_thunk/drowsythunk/eval/IntValue"), (0, .methodref 7 10), (0, .nameAndType 5 11), (0, u "(J)V"), (0, .methodref 13 14), (0, .class_ 15), (0, .nameAndType 16 17), (0, u "java/lang/Long"), (0, u "valueOf"), (0, u "(J)Ljava/lang/Long;"), (0, .methodref 7 19), (0, .nameAndType 20 21), (0, u "equals"), (0, u "(Ljava/lang/Object;)Z"), (0, .class_ 23), (0, u "com/example/drowsy_thunk/drowsythunk/eval/IntValueEqualsPinLaw"), (2, u "law"), (0, u "(JJI)Z")] 3

def k1m0 : Method := { name := "<init>", desc := "()V", sig := { parameters := [], returnType := none }, accessFlags := 1, code := none }
def k1c1 : Code := { maxStack := 4, maxLocals := 9, code := code, exceptionTable := #[], attributes := #[] }
def k1m1 : Method := { name := "law", desc := "(JJI)Z", sig := { parameters := [.long, .long, .int], returnType := some .boolean }, accessFlags := 9, code := some k1c1 }
/-- com/example/drowsy_thunk/drowsythunk/eval/IntValueEqualsPinLaw -/
def k1 : Class := { plain "com/example/drowsy_thunk/drowsythunk/eval/IntValueEqualsPinLaw" (some 0) with
  accessFlags := 49
  interfaces := #[]
  cf := some (fileOf pool1 22 #[] #[{ accessFlags := 1, nameIndex := 5, descriptorIndex := 6, attributes := #[] }, { accessFlags := 9, nameIndex := 26, descriptorIndex := 27, attributes := #[] }] 49 2 #[] #[])
  fields := #[]
  methods := #[k1m0, k1m1]
  instanceTypes := #[]
  staticTypes := #[]
  resolved := Array.replicate 31 none
  statics := none }

def pool2 : Array CpInfo := pool [(1, .methodref 2 3), (0, .class_ 4), (0, .nameAndType 5 6), (0, u "java/lang/Object"), (0, u "<init>"), (0, u "()V"), (12, .class_ 20), (0, u "com/example/drowsy_thunk/drowsythunk/eval/Thunk")] 13

def k2c0 : Code := { maxStack := 1, maxLocals := 1, code := prog_122_method_1_code, exceptionTable := #[], attributes := #[] }
def k2m0 : Method := { name := "<init>", desc := "()V", sig := { parameters := [], returnType := none }, accessFlags := 1, code := some k2c0 }
/-- com/example/drowsy_thunk/drowsythunk/eval/Thunk -/
def k2 : Class := { plain "com/example/drowsy_thunk/drowsythunk/eval/Thunk" (some 0) with
  accessFlags := 1057
  interfaces := #[]
  cf := some (fileOf pool2 19 #[] #[{ accessFlags := 1, nameIndex := 5, descriptorIndex := 6, attributes := #[] }] 1057 2 #[] #[])
  fields := #[]
  methods := #[k2m0]
  instanceTypes := #[]
  staticTypes := #[]
  resolved := Array.replicate 34 none
  statics := none }

def pool3 : Array CpInfo := pool [(1, .methodref 2 3), (0, .class_ 4), (0, .nameAndType 5 6), (0, u "com/example/drowsy_thunk/drowsythunk/eval/Thunk"), (0, u "<init>"), (0, u "()V"), (4, .class_ 12), (0, u "com/example/drowsy_thunk/drowsythunk/eval/Value")] 26

def k3c0 : Code := { maxStack := 1, maxLocals := 1, code := prog_123_method_1_code, exceptionTable := #[], attributes := #[] }
def k3m0 : Method := { name := "<init>", desc := "()V", sig := { parameters := [], returnType := none }, accessFlags := 1, code := some k3c0 }
/-- com/example/drowsy_thunk/drowsythunk/eval/Value -/
def k3 : Class := { plain "com/example/drowsy_thunk/drowsythunk/eval/Value" (some 2) with
  accessFlags := 1057
  interfaces := #[]
  cf := some (fileOf pool3 11 #[] #[{ accessFlags := 1, nameIndex := 5, descriptorIndex := 6, attributes := #[] }] 1057 2 #[] #[])
  fields := #[]
  methods := #[k3m0]
  instanceTypes := #[]
  staticTypes := #[]
  resolved := Array.replicate 39 none
  statics := none }

def pool4 : Array CpInfo := pool [(1, .methodref 2 3), (0, .class_ 4), (0, .nameAndType 5 6), (0, u "com/example/drowsy_thunk/drowsythunk/eval/Value"), (0, u "<init>"), (0, u "()V"), (0, .fieldref 8 9), (0, .class_ 10), (0, .nameAndType 11 12), (0, u "com/example/drowsy_thunk/drowsythunk/eval/IntValue"), (0, u "value"), (0, u "J"), (14, u "KIND"), (0, u "Ljava/lang/String;"), (1, u "(J)V"), (7, u "equals"), (0, u "(Ljava/lang/Object;)Z")] 5

def k4c0 : Code := { maxStack := 3, maxLocals := 3, code := prog_87_method_1_code, exceptionTable := #[], attributes := #[] }
def k4m0 : Method := { name := "<init>", desc := "(J)V", sig := { parameters := [.long], returnType := none }, accessFlags := 1, code := some k4c0 }
def k4c1 : Code := { maxStack := 4, maxLocals := 3, code := prog_87_method_4_code, exceptionTable := #[], attributes := #[] }
def k4m1 : Method := { name := "equals", desc := "(Ljava/lang/Object;)Z", sig := { parameters := [(.object "java/lang/Object")], returnType := some .boolean }, accessFlags := 1, code := some k4c1 }
/-- com/example/drowsy_thunk/drowsythunk/eval/IntValue -/
def k4 : Class := { plain "com/example/drowsy_thunk/drowsythunk/eval/IntValue" (some 3) with
  accessFlags := 49
  interfaces := #[]
  cf := some (fileOf pool4 8 #[] #[{ accessFlags := 1, nameIndex := 5, descriptorIndex := 30, attributes := #[] }, { accessFlags := 1, nameIndex := 38, descriptorIndex := 39, attributes := #[] }] 49 2 #[] #[{ accessFlags := 25, nameIndex := 27, descriptorIndex := 28, attributes := #[] }, { accessFlags := 18, nameIndex := 11, descriptorIndex := 12, attributes := #[] }])
  fields := #[{ name := "KIND", type := (.object "java/lang/String"), accessFlags := 25, slot := 0, constantValue := 0 }, { name := "value", type := .long, accessFlags := 18, slot := 0, constantValue := 0 }]
  methods := #[k4m0, k4m1]
  instanceTypes := #[.long]
  staticTypes := #[(.object "java/lang/String")]
  resolved := Array.replicate 45 none
  statics := none }

def pool5 : Array CpInfo := pool [(1, .class_ 2), (0, u "java/io/Serializable"), (0, .class_ 4), (0, u "java/lang/Object")] 2

/-- java/io/Serializable -/
def k5 : Class := { plain "java/io/Serializable" (some 0) with
  accessFlags := 1537
  interfaces := #[]
  cf := some (fileOf pool5 1 #[] #[] 1537 3 #[] #[])
  fields := #[]
  methods := #[]
  instanceTypes := #[]
  staticTypes := #[]
  resolved := Array.replicate 7 none
  statics := none }

def pool6 : Array CpInfo := pool [(1, .methodref 2 3), (0, .class_ 4), (0, .nameAndType 5 6), (0, u "java/lang/Object"), (0, u "<init>"), (0, u "()V"), (1, .class_ 10), (1, u "java/lang/Number"), (2, .class_ 14), (0, u "java/io/Serializable"), (0, u "serialVersionUID"), (0, u "J")] 20

def k6c0 : Code := { maxStack := 1, maxLocals := 1, code := jdk_18_method_1_code, exceptionTable := #[], attributes := #[] }
def k6m0 : Method := { name := "<init>", desc := "()V", sig := { parameters := [], returnType := none }, accessFlags := 1, code := some k6c0 }
/-- java/lang/Number -/
def k6 : Class := { plain "java/lang/Number" (some 0) with
  accessFlags := 1057
  interfaces := #[5]
  cf := some (fileOf pool6 8 #[] #[{ accessFlags := 1, nameIndex := 5, descriptorIndex := 6, attributes := #[] }] 1057 2 #[13] #[{ accessFlags := 26, nameIndex := 15, descriptorIndex := 16, attributes := #[] }])
  fields := #[{ name := "serialVersionUID", type := .long, accessFlags := 26, slot := 0, constantValue := 0 }]
  methods := #[k6m0]
  instanceTypes := #[]
  staticTypes := #[.long]
  resolved := Array.replicate 37 none
  statics := none }

def pool7 : Array CpInfo := pool [(1, .class_ 2), (0, u "java/lang/Comparable"), (0, .class_ 4), (0, u "java/lang/Object")] 7

/-- java/lang/Comparable -/
def k7 : Class := { plain "java/lang/Comparable" (some 0) with
  accessFlags := 1537
  interfaces := #[]
  cf := some (fileOf pool7 1 #[] #[] 1537 3 #[] #[])
  fields := #[]
  methods := #[]
  instanceTypes := #[]
  staticTypes := #[]
  resolved := Array.replicate 12 none
  statics := none }

def pool8 : Array CpInfo := pool [(1, .class_ 2), (0, u "java/lang/constant/Constable"), (0, .class_ 4), (0, u "java/lang/Object")] 6

/-- java/lang/constant/Constable -/
def k8 : Class := { plain "java/lang/constant/Constable" (some 0) with
  accessFlags := 1537
  interfaces := #[]
  cf := some (fileOf pool8 1 #[] #[] 1537 3 #[] #[])
  fields := #[]
  methods := #[]
  instanceTypes := #[]
  staticTypes := #[]
  resolved := Array.replicate 11 none
  statics := none }

def pool9 : Array CpInfo := pool [(1, .class_ 2), (0, u "java/lang/constant/ConstantDesc"), (0, .class_ 4), (0, u "java/lang/Object")] 32

/-- java/lang/constant/ConstantDesc -/
def k9 : Class := { plain "java/lang/constant/ConstantDesc" (some 0) with
  accessFlags := 1537
  interfaces := #[]
  cf := some (fileOf pool9 1 #[] #[] 1537 3 #[] #[])
  fields := #[]
  methods := #[]
  instanceTypes := #[]
  staticTypes := #[]
  resolved := Array.replicate 37 none
  statics := none }

def pool10 : Array CpInfo := pool [(1, .class_ 2), (0, u "java/lang/Long"), (55, .nameAndType 59 60), (0, u "<init>"), (0, u "()V"), (24, u "valueOf"), (143, u "(J)Ljava/lang/Long;"), (0, .long 18446744073709551488), (1, .long 127), (1, .fieldref 235 236), (0, .class_ 237), (0, .nameAndType 238 239), (0, u "java/lang/Long$LongCache"), (0, u "cache"), (0, u "[Ljava/lang/Long;"), (0, .methodref 1 241), (0, .nameAndType 59 242), (0, u "(J)V"), (27, .methodref 271 58), (0, .class_ 272), (0, u "java/lang/Number"), (0, .fieldref 1 274), (0, .nameAndType 275 276), (0, u "value"), (0, u "J"), (84, u "TYPE"), (0, u "Ljava/lang/Class;"), (0, .class_ 364), (0, u "java/lang/Comparable"), (0, .class_ 366), (0, u "java/lang/constant/Constable"), (0, .class_ 368), (0, u "java/lang/constant/ConstantDesc"), (0, u "MIN_VALUE"), (1, u "MAX_VALUE"), (4, u "SIZE"), (0, u "I"), (1, u "BYTES"), (1, u "serialVersionUID")] 142

def k10c0 : Code := { maxStack := 4, maxLocals := 3, code := jdk_35_method_24_code, exceptionTable := #[], attributes := #[] }
def k10m0 : Method := { name := "valueOf", desc := "(J)Ljava/lang/Long;", sig := { parameters := [.long], returnType := some (.object "java/lang/Long") }, accessFlags := 9, code := some k10c0 }
def k10c1 : Code := { maxStack := 3, maxLocals := 3, code := jdk_35_method_26_code, exceptionTable := #[], attributes := #[] }
def k10m1 : Method := { name := "<init>", desc := "(J)V", sig := { parameters := [.long], returnType := none }, accessFlags := 1, code := some k10c1 }
/-- java/lang/Long -/
def k10 : Class := { plain "java/lang/Long" (some 6) with
  accessFlags := 49
  interfaces := #[7, 8, 9]
  cf := some (fileOf pool10 1 #[.nestMembers #[235]] #[{ accessFlags := 9, nameIndex := 85, descriptorIndex := 229, attributes := #[] }, { accessFlags := 1, nameIndex := 59, descriptorIndex := 242, attributes := #[] }] 49 271 #[363, 365, 367] #[{ accessFlags := 25, nameIndex := 369, descriptorIndex := 276, attributes := #[] }, { accessFlags := 25, nameIndex := 371, descriptorIndex := 276, attributes := #[] }, { accessFlags := 25, nameIndex := 361, descriptorIndex := 362, attributes := #[] }, { accessFlags := 18, nameIndex := 275, descriptorIndex := 276, attributes := #[] }, { accessFlags := 25, nameIndex := 376, descriptorIndex := 377, attributes := #[] }, { accessFlags := 25, nameIndex := 379, descriptorIndex := 377, attributes := #[] }, { accessFlags := 26, nameIndex := 381, descriptorIndex := 276, attributes := #[] }])
  fields := #[{ name := "MIN_VALUE", type := .long, accessFlags := 25, slot := 0, constantValue := 0 }, { name := "MAX_VALUE", type := .long, accessFlags := 25, slot := 1, constantValue := 0 }, { name := "TYPE", type := (.object "java/lang/Class"), accessFlags := 25, slot := 2, constantValue := 0 }, { name := "value", type := .long, accessFlags := 18, slot := 0, constantValue := 0 }, { name := "SIZE", type := .int, accessFlags := 25, slot := 3, constantValue := 0 }, { name := "BYTES", type := .int, accessFlags := 25, slot := 4, constantValue := 0 }, { name := "serialVersionUID", type := .long, accessFlags := 26, slot := 5, constantValue := 0 }]
  methods := #[k10m0, k10m1]
  instanceTypes := #[.long]
  staticTypes := #[.long, .long, (.object "java/lang/Class"), .int, .int, .long]
  resolved := Array.replicate 524 none
  statics := none }

def pool11 : Array CpInfo := pool [(2, .class_ 4), (1, u "java/lang/Object"), (0, u "<init>"), (0, u "()V"), (0, .class_ 8), (0, u "java/lang/Long"), (7, .class_ 18), (1, u "java/lang/Long$LongCache"), (0, u "$assertionsDisabled"), (0, u "Z"), (8, u "archivedCache"), (0, u "[Ljava/lang/Long;"), (7, u "cache")] 24

def k11m0 : Method := { name := "<init>", desc := "()V", sig := { parameters := [], returnType := none }, accessFlags := 2, code := none }
/-- java/lang/Long$LongCache -/
def k11 : Class := { plain "java/lang/Long$LongCache" (some 0) with
  accessFlags := 48
  interfaces := #[]
  cf := some (fileOf pool11 16 #[.nestHost 7] #[{ accessFlags := 2, nameIndex := 5, descriptorIndex := 6, attributes := #[] }] 48 2 #[] #[{ accessFlags := 24, nameIndex := 38, descriptorIndex := 30, attributes := #[] }, { accessFlags := 8, nameIndex := 29, descriptorIndex := 30, attributes := #[] }, { accessFlags := 4120, nameIndex := 19, descriptorIndex := 20, attributes := #[] }])
  fields := #[{ name := "cache", type := (.array (.object "java/lang/Long")), accessFlags := 24, slot := 0, constantValue := 0 }, { name := "archivedCache", type := (.array (.object "java/lang/Long")), accessFlags := 8, slot := 1, constantValue := 0 }, { name := "$assertionsDisabled", type := .boolean, accessFlags := 4120, slot := 2, constantValue := 0 }]
  methods := #[k11m0]
  instanceTypes := #[]
  staticTypes := #[(.array (.object "java/lang/Long")), (.array (.object "java/lang/Long")), .boolean]
  resolved := Array.replicate 63 none
  statics := some 0 }

def pool12 : Array CpInfo := pool [(1, u "java/lang/Cloneable"), (0, .class_ 1), (0, u "java/lang/Object"), (0, .class_ 3)] 3

/-- java/lang/Cloneable -/
def k12 : Class := { plain "java/lang/Cloneable" (some 0) with
  accessFlags := 1537
  interfaces := #[]
  cf := some (fileOf pool12 2 #[] #[] 1537 4 #[] #[])
  fields := #[]
  methods := #[]
  instanceTypes := #[]
  staticTypes := #[]
  resolved := Array.replicate 8 none
  statics := none }

/-- the primitive byte -/
def k13 : Class := { plain "byte" none with kind := .primitive 'B', accessFlags := 0x411 }
/-- [B -/
def k14 : Class := { plain "[B" (some 0) with kind := .array 13 .byte, interfaces := #[12, 5], accessFlags := 1041 }

/-- the primitive int -/
def k15 : Class := { plain "int" none with kind := .primitive 'I', accessFlags := 0x411 }
/-- [I -/
def k16 : Class := { plain "[I" (some 0) with kind := .array 15 .int, interfaces := #[12, 5], accessFlags := 1041 }

/-- [Ljava/lang/Long; -/
def k17 : Class := { plain "[Ljava/lang/Long;" (some 0) with kind := .array 10 (.object "java/lang/Long"), interfaces := #[12, 5], accessFlags := 1041 }

def heap : Heap := #[{ cls := 11, slots := #[.ref 1, .null, .int 0], vm := .statics 11 },
  { cls := 17, slots := #[.ref 2, .ref 3, .ref 4, .ref 5, .ref 6, .ref 7, .ref 8, .ref 9, .ref 10, .ref 11, .ref 12, .ref 13, .ref 14, .ref 15, .ref 16, .ref 17, .ref 18, .ref 19, .ref 20, .ref 21, .ref 22, .ref 23, .ref 24, .ref 25, .ref 26, .ref 27, .ref 28, .ref 29, .ref 30, .ref 31, .ref 32, .ref 33, .ref 34, .ref 35, .ref 36, .ref 37, .ref 38, .ref 39, .ref 40, .ref 41, .ref 42, .ref 43, .ref 44, .ref 45, .ref 46, .ref 47, .ref 48, .ref 49, .ref 50, .ref 51, .ref 52, .ref 53, .ref 54, .ref 55, .ref 56, .ref 57, .ref 58, .ref 59, .ref 60, .ref 61, .ref 62, .ref 63, .ref 64, .ref 65, .ref 66, .ref 67, .ref 68, .ref 69, .ref 70, .ref 71, .ref 72, .ref 73, .ref 74, .ref 75, .ref 76, .ref 77, .ref 78, .ref 79, .ref 80, .ref 81, .ref 82, .ref 83, .ref 84, .ref 85, .ref 86, .ref 87, .ref 88, .ref 89, .ref 90, .ref 91, .ref 92, .ref 93, .ref 94, .ref 95, .ref 96, .ref 97, .ref 98, .ref 99, .ref 100, .ref 101, .ref 102, .ref 103, .ref 104, .ref 105, .ref 106, .ref 107, .ref 108, .ref 109, .ref 110, .ref 111, .ref 112, .ref 113, .ref 114, .ref 115, .ref 116, .ref 117, .ref 118, .ref 119, .ref 120, .ref 121, .ref 122, .ref 123, .ref 124, .ref 125, .ref 126, .ref 127, .ref 128, .ref 129, .ref 130, .ref 131, .ref 132, .ref 133, .ref 134, .ref 135, .ref 136, .ref 137, .ref 138, .ref 139, .ref 140, .ref 141, .ref 142, .ref 143, .ref 144, .ref 145, .ref 146, .ref 147, .ref 148, .ref 149, .ref 150, .ref 151, .ref 152, .ref 153, .ref 154, .ref 155, .ref 156, .ref 157, .ref 158, .ref 159, .ref 160, .ref 161, .ref 162, .ref 163, .ref 164, .ref 165, .ref 166, .ref 167, .ref 168, .ref 169, .ref 170, .ref 171, .ref 172, .ref 173, .ref 174, .ref 175, .ref 176, .ref 177, .ref 178, .ref 179, .ref 180, .ref 181, .ref 182, .ref 183, .ref 184, .ref 185, .ref 186, .ref 187, .ref 188, .ref 189, .ref 190, .ref 191, .ref 192, .ref 193, .ref 194, .ref 195, .ref 196, .ref 197, .ref 198, .ref 199, .ref 200, .ref 201, .ref 202, .ref 203, .ref 204, .ref 205, .ref 206, .ref 207, .ref 208, .ref 209, .ref 210, .ref 211, .ref 212, .ref 213, .ref 214, .ref 215, .ref 216, .ref 217, .ref 218, .ref 219, .ref 220, .ref 221, .ref 222, .ref 223, .ref 224, .ref 225, .ref 226, .ref 227, .ref 228, .ref 229, .ref 230, .ref 231, .ref 232, .ref 233, .ref 234, .ref 235, .ref 236, .ref 237, .ref 238, .ref 239, .ref 240, .ref 241, .ref 242, .ref 243, .ref 244, .ref 245, .ref 246, .ref 247, .ref 248, .ref 249, .ref 250, .ref 251, .ref 252, .ref 253, .ref 254, .ref 255, .ref 256, .ref 257], vm := .none },
  { cls := 10, slots := #[.long (-128)], vm := .none },
  { cls := 10, slots := #[.long (-127)], vm := .none },
  { cls := 10, slots := #[.long (-126)], vm := .none },
  { cls := 10, slots := #[.long (-125)], vm := .none },
  { cls := 10, slots := #[.long (-124)], vm := .none },
  { cls := 10, slots := #[.long (-123)], vm := .none },
  { cls := 10, slots := #[.long (-122)], vm := .none },
  { cls := 10, slots := #[.long (-121)], vm := .none },
  { cls := 10, slots := #[.long (-120)], vm := .none },
  { cls := 10, slots := #[.long (-119)], vm := .none },
  { cls := 10, slots := #[.long (-118)], vm := .none },
  { cls := 10, slots := #[.long (-117)], vm := .none },
  { cls := 10, slots := #[.long (-116)], vm := .none },
  { cls := 10, slots := #[.long (-115)], vm := .none },
  { cls := 10, slots := #[.long (-114)], vm := .none },
  { cls := 10, slots := #[.long (-113)], vm := .none },
  { cls := 10, slots := #[.long (-112)], vm := .none },
  { cls := 10, slots := #[.long (-111)], vm := .none },
  { cls := 10, slots := #[.long (-110)], vm := .none },
  { cls := 10, slots := #[.long (-109)], vm := .none },
  { cls := 10, slots := #[.long (-108)], vm := .none },
  { cls := 10, slots := #[.long (-107)], vm := .none },
  { cls := 10, slots := #[.long (-106)], vm := .none },
  { cls := 10, slots := #[.long (-105)], vm := .none },
  { cls := 10, slots := #[.long (-104)], vm := .none },
  { cls := 10, slots := #[.long (-103)], vm := .none },
  { cls := 10, slots := #[.long (-102)], vm := .none },
  { cls := 10, slots := #[.long (-101)], vm := .none },
  { cls := 10, slots := #[.long (-100)], vm := .none },
  { cls := 10, slots := #[.long (-99)], vm := .none },
  { cls := 10, slots := #[.long (-98)], vm := .none },
  { cls := 10, slots := #[.long (-97)], vm := .none },
  { cls := 10, slots := #[.long (-96)], vm := .none },
  { cls := 10, slots := #[.long (-95)], vm := .none },
  { cls := 10, slots := #[.long (-94)], vm := .none },
  { cls := 10, slots := #[.long (-93)], vm := .none },
  { cls := 10, slots := #[.long (-92)], vm := .none },
  { cls := 10, slots := #[.long (-91)], vm := .none },
  { cls := 10, slots := #[.long (-90)], vm := .none },
  { cls := 10, slots := #[.long (-89)], vm := .none },
  { cls := 10, slots := #[.long (-88)], vm := .none },
  { cls := 10, slots := #[.long (-87)], vm := .none },
  { cls := 10, slots := #[.long (-86)], vm := .none },
  { cls := 10, slots := #[.long (-85)], vm := .none },
  { cls := 10, slots := #[.long (-84)], vm := .none },
  { cls := 10, slots := #[.long (-83)], vm := .none },
  { cls := 10, slots := #[.long (-82)], vm := .none },
  { cls := 10, slots := #[.long (-81)], vm := .none },
  { cls := 10, slots := #[.long (-80)], vm := .none },
  { cls := 10, slots := #[.long (-79)], vm := .none },
  { cls := 10, slots := #[.long (-78)], vm := .none },
  { cls := 10, slots := #[.long (-77)], vm := .none },
  { cls := 10, slots := #[.long (-76)], vm := .none },
  { cls := 10, slots := #[.long (-75)], vm := .none },
  { cls := 10, slots := #[.long (-74)], vm := .none },
  { cls := 10, slots := #[.long (-73)], vm := .none },
  { cls := 10, slots := #[.long (-72)], vm := .none },
  { cls := 10, slots := #[.long (-71)], vm := .none },
  { cls := 10, slots := #[.long (-70)], vm := .none },
  { cls := 10, slots := #[.long (-69)], vm := .none },
  { cls := 10, slots := #[.long (-68)], vm := .none },
  { cls := 10, slots := #[.long (-67)], vm := .none },
  { cls := 10, slots := #[.long (-66)], vm := .none },
  { cls := 10, slots := #[.long (-65)], vm := .none },
  { cls := 10, slots := #[.long (-64)], vm := .none },
  { cls := 10, slots := #[.long (-63)], vm := .none },
  { cls := 10, slots := #[.long (-62)], vm := .none },
  { cls := 10, slots := #[.long (-61)], vm := .none },
  { cls := 10, slots := #[.long (-60)], vm := .none },
  { cls := 10, slots := #[.long (-59)], vm := .none },
  { cls := 10, slots := #[.long (-58)], vm := .none },
  { cls := 10, slots := #[.long (-57)], vm := .none },
  { cls := 10, slots := #[.long (-56)], vm := .none },
  { cls := 10, slots := #[.long (-55)], vm := .none },
  { cls := 10, slots := #[.long (-54)], vm := .none },
  { cls := 10, slots := #[.long (-53)], vm := .none },
  { cls := 10, slots := #[.long (-52)], vm := .none },
  { cls := 10, slots := #[.long (-51)], vm := .none },
  { cls := 10, slots := #[.long (-50)], vm := .none },
  { cls := 10, slots := #[.long (-49)], vm := .none },
  { cls := 10, slots := #[.long (-48)], vm := .none },
  { cls := 10, slots := #[.long (-47)], vm := .none },
  { cls := 10, slots := #[.long (-46)], vm := .none },
  { cls := 10, slots := #[.long (-45)], vm := .none },
  { cls := 10, slots := #[.long (-44)], vm := .none },
  { cls := 10, slots := #[.long (-43)], vm := .none },
  { cls := 10, slots := #[.long (-42)], vm := .none },
  { cls := 10, slots := #[.long (-41)], vm := .none },
  { cls := 10, slots := #[.long (-40)], vm := .none },
  { cls := 10, slots := #[.long (-39)], vm := .none },
  { cls := 10, slots := #[.long (-38)], vm := .none },
  { cls := 10, slots := #[.long (-37)], vm := .none },
  { cls := 10, slots := #[.long (-36)], vm := .none },
  { cls := 10, slots := #[.long (-35)], vm := .none },
  { cls := 10, slots := #[.long (-34)], vm := .none },
  { cls := 10, slots := #[.long (-33)], vm := .none },
  { cls := 10, slots := #[.long (-32)], vm := .none },
  { cls := 10, slots := #[.long (-31)], vm := .none },
  { cls := 10, slots := #[.long (-30)], vm := .none },
  { cls := 10, slots := #[.long (-29)], vm := .none },
  { cls := 10, slots := #[.long (-28)], vm := .none },
  { cls := 10, slots := #[.long (-27)], vm := .none },
  { cls := 10, slots := #[.long (-26)], vm := .none },
  { cls := 10, slots := #[.long (-25)], vm := .none },
  { cls := 10, slots := #[.long (-24)], vm := .none },
  { cls := 10, slots := #[.long (-23)], vm := .none },
  { cls := 10, slots := #[.long (-22)], vm := .none },
  { cls := 10, slots := #[.long (-21)], vm := .none },
  { cls := 10, slots := #[.long (-20)], vm := .none },
  { cls := 10, slots := #[.long (-19)], vm := .none },
  { cls := 10, slots := #[.long (-18)], vm := .none },
  { cls := 10, slots := #[.long (-17)], vm := .none },
  { cls := 10, slots := #[.long (-16)], vm := .none },
  { cls := 10, slots := #[.long (-15)], vm := .none },
  { cls := 10, slots := #[.long (-14)], vm := .none },
  { cls := 10, slots := #[.long (-13)], vm := .none },
  { cls := 10, slots := #[.long (-12)], vm := .none },
  { cls := 10, slots := #[.long (-11)], vm := .none },
  { cls := 10, slots := #[.long (-10)], vm := .none },
  { cls := 10, slots := #[.long (-9)], vm := .none },
  { cls := 10, slots := #[.long (-8)], vm := .none },
  { cls := 10, slots := #[.long (-7)], vm := .none },
  { cls := 10, slots := #[.long (-6)], vm := .none },
  { cls := 10, slots := #[.long (-5)], vm := .none },
  { cls := 10, slots := #[.long (-4)], vm := .none },
  { cls := 10, slots := #[.long (-3)], vm := .none },
  { cls := 10, slots := #[.long (-2)], vm := .none },
  { cls := 10, slots := #[.long (-1)], vm := .none },
  { cls := 10, slots := #[.long 0], vm := .none },
  { cls := 10, slots := #[.long 1], vm := .none },
  { cls := 10, slots := #[.long 2], vm := .none },
  { cls := 10, slots := #[.long 3], vm := .none },
  { cls := 10, slots := #[.long 4], vm := .none },
  { cls := 10, slots := #[.long 5], vm := .none },
  { cls := 10, slots := #[.long 6], vm := .none },
  { cls := 10, slots := #[.long 7], vm := .none },
  { cls := 10, slots := #[.long 8], vm := .none },
  { cls := 10, slots := #[.long 9], vm := .none },
  { cls := 10, slots := #[.long 10], vm := .none },
  { cls := 10, slots := #[.long 11], vm := .none },
  { cls := 10, slots := #[.long 12], vm := .none },
  { cls := 10, slots := #[.long 13], vm := .none },
  { cls := 10, slots := #[.long 14], vm := .none },
  { cls := 10, slots := #[.long 15], vm := .none },
  { cls := 10, slots := #[.long 16], vm := .none },
  { cls := 10, slots := #[.long 17], vm := .none },
  { cls := 10, slots := #[.long 18], vm := .none },
  { cls := 10, slots := #[.long 19], vm := .none },
  { cls := 10, slots := #[.long 20], vm := .none },
  { cls := 10, slots := #[.long 21], vm := .none },
  { cls := 10, slots := #[.long 22], vm := .none },
  { cls := 10, slots := #[.long 23], vm := .none },
  { cls := 10, slots := #[.long 24], vm := .none },
  { cls := 10, slots := #[.long 25], vm := .none },
  { cls := 10, slots := #[.long 26], vm := .none },
  { cls := 10, slots := #[.long 27], vm := .none },
  { cls := 10, slots := #[.long 28], vm := .none },
  { cls := 10, slots := #[.long 29], vm := .none },
  { cls := 10, slots := #[.long 30], vm := .none },
  { cls := 10, slots := #[.long 31], vm := .none },
  { cls := 10, slots := #[.long 32], vm := .none },
  { cls := 10, slots := #[.long 33], vm := .none },
  { cls := 10, slots := #[.long 34], vm := .none },
  { cls := 10, slots := #[.long 35], vm := .none },
  { cls := 10, slots := #[.long 36], vm := .none },
  { cls := 10, slots := #[.long 37], vm := .none },
  { cls := 10, slots := #[.long 38], vm := .none },
  { cls := 10, slots := #[.long 39], vm := .none },
  { cls := 10, slots := #[.long 40], vm := .none },
  { cls := 10, slots := #[.long 41], vm := .none },
  { cls := 10, slots := #[.long 42], vm := .none },
  { cls := 10, slots := #[.long 43], vm := .none },
  { cls := 10, slots := #[.long 44], vm := .none },
  { cls := 10, slots := #[.long 45], vm := .none },
  { cls := 10, slots := #[.long 46], vm := .none },
  { cls := 10, slots := #[.long 47], vm := .none },
  { cls := 10, slots := #[.long 48], vm := .none },
  { cls := 10, slots := #[.long 49], vm := .none },
  { cls := 10, slots := #[.long 50], vm := .none },
  { cls := 10, slots := #[.long 51], vm := .none },
  { cls := 10, slots := #[.long 52], vm := .none },
  { cls := 10, slots := #[.long 53], vm := .none },
  { cls := 10, slots := #[.long 54], vm := .none },
  { cls := 10, slots := #[.long 55], vm := .none },
  { cls := 10, slots := #[.long 56], vm := .none },
  { cls := 10, slots := #[.long 57], vm := .none },
  { cls := 10, slots := #[.long 58], vm := .none },
  { cls := 10, slots := #[.long 59], vm := .none },
  { cls := 10, slots := #[.long 60], vm := .none },
  { cls := 10, slots := #[.long 61], vm := .none },
  { cls := 10, slots := #[.long 62], vm := .none },
  { cls := 10, slots := #[.long 63], vm := .none },
  { cls := 10, slots := #[.long 64], vm := .none },
  { cls := 10, slots := #[.long 65], vm := .none },
  { cls := 10, slots := #[.long 66], vm := .none },
  { cls := 10, slots := #[.long 67], vm := .none },
  { cls := 10, slots := #[.long 68], vm := .none },
  { cls := 10, slots := #[.long 69], vm := .none },
  { cls := 10, slots := #[.long 70], vm := .none },
  { cls := 10, slots := #[.long 71], vm := .none },
  { cls := 10, slots := #[.long 72], vm := .none },
  { cls := 10, slots := #[.long 73], vm := .none },
  { cls := 10, slots := #[.long 74], vm := .none },
  { cls := 10, slots := #[.long 75], vm := .none },
  { cls := 10, slots := #[.long 76], vm := .none },
  { cls := 10, slots := #[.long 77], vm := .none },
  { cls := 10, slots := #[.long 78], vm := .none },
  { cls := 10, slots := #[.long 79], vm := .none },
  { cls := 10, slots := #[.long 80], vm := .none },
  { cls := 10, slots := #[.long 81], vm := .none },
  { cls := 10, slots := #[.long 82], vm := .none },
  { cls := 10, slots := #[.long 83], vm := .none },
  { cls := 10, slots := #[.long 84], vm := .none },
  { cls := 10, slots := #[.long 85], vm := .none },
  { cls := 10, slots := #[.long 86], vm := .none },
  { cls := 10, slots := #[.long 87], vm := .none },
  { cls := 10, slots := #[.long 88], vm := .none },
  { cls := 10, slots := #[.long 89], vm := .none },
  { cls := 10, slots := #[.long 90], vm := .none },
  { cls := 10, slots := #[.long 91], vm := .none },
  { cls := 10, slots := #[.long 92], vm := .none },
  { cls := 10, slots := #[.long 93], vm := .none },
  { cls := 10, slots := #[.long 94], vm := .none },
  { cls := 10, slots := #[.long 95], vm := .none },
  { cls := 10, slots := #[.long 96], vm := .none },
  { cls := 10, slots := #[.long 97], vm := .none },
  { cls := 10, slots := #[.long 98], vm := .none },
  { cls := 10, slots := #[.long 99], vm := .none },
  { cls := 10, slots := #[.long 100], vm := .none },
  { cls := 10, slots := #[.long 101], vm := .none },
  { cls := 10, slots := #[.long 102], vm := .none },
  { cls := 10, slots := #[.long 103], vm := .none },
  { cls := 10, slots := #[.long 104], vm := .none },
  { cls := 10, slots := #[.long 105], vm := .none },
  { cls := 10, slots := #[.long 106], vm := .none },
  { cls := 10, slots := #[.long 107], vm := .none },
  { cls := 10, slots := #[.long 108], vm := .none },
  { cls := 10, slots := #[.long 109], vm := .none },
  { cls := 10, slots := #[.long 110], vm := .none },
  { cls := 10, slots := #[.long 111], vm := .none },
  { cls := 10, slots := #[.long 112], vm := .none },
  { cls := 10, slots := #[.long 113], vm := .none },
  { cls := 10, slots := #[.long 114], vm := .none },
  { cls := 10, slots := #[.long 115], vm := .none },
  { cls := 10, slots := #[.long 116], vm := .none },
  { cls := 10, slots := #[.long 117], vm := .none },
  { cls := 10, slots := #[.long 118], vm := .none },
  { cls := 10, slots := #[.long 119], vm := .none },
  { cls := 10, slots := #[.long 120], vm := .none },
  { cls := 10, slots := #[.long 121], vm := .none },
  { cls := 10, slots := #[.long 122], vm := .none },
  { cls := 10, slots := #[.long 123], vm := .none },
  { cls := 10, slots := #[.long 124], vm := .none },
  { cls := 10, slots := #[.long 125], vm := .none },
  { cls := 10, slots := #[.long 126], vm := .none },
  { cls := 10, slots := #[.long 127], vm := .none }]
def classes : Array Class := #[k0, k1, k2, k3, k4, k5, k6, k7, k8, k9, k10, k11, k12, k13, k14, k15, k16, k17]
def interned : List (Array UInt16 × Addr) := []
def slotsUsed : Nat := 515
def theMethod : MethodId := ⟨1, 1⟩
def args0 : Array Value := #[.long 5, .long 5, .int 1]
def aboutOver (below : List Frame) : State where
  vm := { classes := classes, interned := interned.toArray }
  heap := heap
  slotsUsed := slotsUsed
  threads := #[{ frames := .invoking theMethod args0 :: below }]
def below0 : List Frame := [.native { method := ⟨0, 0⟩, args := #[] }]
def about1 : State := aboutOver below0
def p0 : Program := .bare "" "" ""
def e0 : Env := launch0.env 0 0 0
theorem w_frames : about1.frames = Frame.invoking theMethod args0 :: below0 := rfl
set_option maxRecDepth 65536 in
theorem w_args : argsFit about1.vm theMethod args0 = true := by decide +kernel
set_option maxRecDepth 65536 in
theorem w_heap : heapFits about1 = true := by decide +kernel
set_option maxRecDepth 65536 in
theorem w_runnable : about1.curStatus? = some .runnable := by decide +kernel
set_option maxRecDepth 65536 in
theorem w_alone : about1.alone = true := by decide +kernel
set_option maxRecDepth 65536 in
theorem w_named : about1.methodNamed? x = some theMethod := by decide +kernel
set_option maxRecDepth 65536 in
theorem w_hears : about1.hears theMethod below0 = true := by decide +kernel
set_option maxRecDepth 65536 in
theorem w_ripe : about1.ripe theMethod args0 below0 = true := by decide +kernel
theorem w_running : about1.status = .running := rfl
set_option maxRecDepth 65536 in
theorem w_room : about1.hasRoom e0.platform room_1 = true :=
  launch0.hasRoom_least _ room_1 (by decide +kernel) (by decide +kernel) (by decide +kernel) (by decide +kernel) (by decide +kernel) (by decide +kernel)
theorem allAtoms_all (ts : List Jvm.Cond) (a : Array Jvm.Value) (st : Jvm.State) : (allAtoms ts).before a st = ts.all (fun c => c.before a st) := by
  induction ts with
  | nil => rfl
  | cons c t ih =>
    show (Jvm.Cond.and c (allAtoms t)).before a st = _
    rw [Jvm.Cond.before_and, ih, List.all_cons]
def words1 : List Jvm.Cond := Jvm.Cond.code x code maxLocals ret :: tables_1
/-- a 'code' word, met by the world's own term for the bytes: nothing is compared byte by byte -/
theorem code_word {y : MethodName} {bytes : ByteArray} {mx : Nat} {rt : Option FieldType} {a : Array Value} {s : State} {m : MethodId} {meth : Method} {c : Code} (h1 : s.methodNamed? y = some m) (h2 : s.vm.method? m = some meth) (h3 : meth.code = some c) (h4 : c.code = bytes)
    (h5 : (c.maxLocals == mx && c.exceptionTable.isEmpty && decide (c.maxStack ≤ mostOperands) && decide (meth.sig.returnType = rt) && !meth.locks && decide (parseMethodDescriptor y.desc = some meth.sig)) = true) : (Jvm.Cond.code y bytes mx rt).before a s = true := by
  simp only [Bool.and_eq_true, beq_iff_eq, Bool.not_eq_true', decide_eq_true_eq] at h5
  obtain ⟨⟨⟨⟨⟨g1, g2⟩, g3⟩, g4⟩, g5⟩, g6⟩ := h5
  simp [Cond.before, Cond.holds, Cond.value, h1, h2, h3, h4, g1, g2, g3, g4, g5, g6]
def isCode : Jvm.Cond → Bool
  | .code _ _ _ _ => true
  | _ => false
theorem all_split {L : List Jvm.Cond} {P : Jvm.Cond → Bool} (h1 : L.all (fun c => isCode c || P c) = true) (h2 : ∀ c ∈ L.filter isCode, P c = true) : L.all P = true := by
  refine List.all_eq_true.mpr fun c hc => ?_
  have h := List.all_eq_true.mp h1 c hc
  rcases Bool.eq_false_or_eq_true (isCode c) with hi | hi
  · exact h2 c (List.mem_filter.mpr ⟨hc, hi⟩)
  · simpa [hi] using h
set_option maxRecDepth 65536 in
theorem w_c0 : (Jvm.Cond.code x code maxLocals ret).before args0 about1 = true := code_word (m := ⟨1, 1⟩) (meth := k1m1) (c := k1c1) (by decide +kernel) rfl rfl rfl (by decide +kernel)
set_option maxRecDepth 65536 in
theorem w_c1 : (Jvm.Cond.code ({ cls := "com/example/drowsy_thunk/drowsythunk/eval/IntValue", name := "<init>", desc := "(J)V" } : Jvm.MethodName) prog_87_method_1_code (3 : Nat) (Option.none : Option Jvm.ClassFile.FieldType)).before args0 about1 = true := code_word (m := ⟨4, 0⟩) (meth := k4m0) (c := k4c0) (by decide +kernel) rfl rfl rfl (by decide +kernel)
set_option maxRecDepth 65536 in
theorem w_c2 : (Jvm.Cond.code ({ cls := "com/example/drowsy_thunk/drowsythunk/eval/Value", name := "<init>", desc := "()V" } : Jvm.MethodName) prog_123_method_1_code (1 : Nat) (Option.none : Option Jvm.ClassFile.FieldType)).before args0 about1 = true := code_word (m := ⟨3, 0⟩) (meth := k3m0) (c := k3c0) (by decide +kernel) rfl rfl rfl (by decide +kernel)
set_option maxRecDepth 65536 in
theorem w_c3 : (Jvm.Cond.code ({ cls := "com/example/drowsy_thunk/drowsythunk/eval/Thunk", name := "<init>", desc := "()V" } : Jvm.MethodName) prog_122_method_1_code (1 : Nat) (Option.none : Option Jvm.ClassFile.FieldType)).before args0 about1 = true := code_word (m := ⟨2, 0⟩) (meth := k2m0) (c := k2c0) (by decide +kernel) rfl rfl rfl (by decide +kernel)
set_option maxRecDepth 65536 in
theorem w_c4 : (Jvm.Cond.code ({ cls := "java/lang/Object", name := "<init>", desc := "()V" } : Jvm.MethodName) object_method_1_code (1 : Nat) (Option.none : Option Jvm.ClassFile.FieldType)).before args0 about1 = true := code_word (m := ⟨0, 0⟩) (meth := k0m0) (c := k0c0) (by decide +kernel) rfl rfl rfl (by decide +kernel)
set_option maxRecDepth 65536 in
theorem w_c5 : (Jvm.Cond.code ({ cls := "com/example/drowsy_thunk/drowsythunk/eval/IntValue", name := "equals", desc := "(Ljava/lang/Object;)Z" } : Jvm.MethodName) prog_87_method_4_code (3 : Nat) (Option.some Jvm.ClassFile.FieldType.boolean)).before args0 about1 = true := code_word (m := ⟨4, 1⟩) (meth := k4m1) (c := k4c1) (by decide +kernel) rfl rfl rfl (by decide +kernel)
set_option maxRecDepth 65536 in
theorem w_c6 : (Jvm.Cond.code ({ cls := "java/lang/Long", name := "valueOf", desc := "(J)Ljava/lang/Long;" } : Jvm.MethodName) jdk_35_method_24_code (3 : Nat) (Option.some (Jvm.ClassFile.FieldType.object "java/lang/Long"))).before args0 about1 = true := code_word (m := ⟨10, 0⟩) (meth := k10m0) (c := k10c0) (by decide +kernel) rfl rfl rfl (by decide +kernel)
set_option maxRecDepth 65536 in
theorem w_c7 : (Jvm.Cond.code ({ cls := "java/lang/Long", name := "<init>", desc := "(J)V" } : Jvm.MethodName) jdk_35_method_26_code (3 : Nat) (Option.none : Option Jvm.ClassFile.FieldType)).before args0 about1 = true := code_word (m := ⟨10, 1⟩) (meth := k10m1) (c := k10c1) (by decide +kernel) rfl rfl rfl (by decide +kernel)
set_option maxRecDepth 65536 in
theorem w_c8 : (Jvm.Cond.code ({ cls := "java/lang/Number", name := "<init>", desc := "()V" } : Jvm.MethodName) jdk_18_method_1_code (1 : Nat) (Option.none : Option Jvm.ClassFile.FieldType)).before args0 about1 = true := code_word (m := ⟨6, 0⟩) (meth := k6m0) (c := k6c0) (by decide +kernel) rfl rfl rfl (by decide +kernel)
def codes1 : List Jvm.Cond := [Jvm.Cond.code x code maxLocals ret, Jvm.Cond.code ({ cls := "com/example/drowsy_thunk/drowsythunk/eval/IntValue", name := "<init>", desc := "(J)V" } : Jvm.MethodName) prog_87_method_1_code (3 : Nat) (Option.none : Option Jvm.ClassFile.FieldType), Jvm.Cond.code ({ cls := "com/example/drowsy_thunk/drowsythunk/eval/Value", name := "<init>", desc := "()V" } : Jvm.MethodName) prog_123_method_1_code (1 : Nat) (Option.none : Option Jvm.ClassFile.FieldType), Jvm.Cond.code ({ cls := "com/example/drowsy_thunk/drowsythunk/eval/Thunk", name := "<init>", desc := "()V" } : Jvm.MethodName) prog_122_method_1_code (1 : Nat) (Option.none : Option Jvm.ClassFile.FieldType), Jvm.Cond.code ({ cls := "java/lang/Object", name := "<init>", desc := "()V" } : Jvm.MethodName) object_method_1_code (1 : Nat) (Option.none : Option Jvm.ClassFile.FieldType), Jvm.Cond.code ({ cls := "com/example/drowsy_thunk/drowsythunk/eval/IntValue", name := "equals", desc := "(Ljava/lang/Object;)Z" } : Jvm.MethodName) prog_87_method_4_code (3 : Nat) (Option.some Jvm.ClassFile.FieldType.boolean), Jvm.Cond.code ({ cls := "java/lang/Long", name := "valueOf", desc := "(J)Ljava/lang/Long;" } : Jvm.MethodName) jdk_35_method_24_code (3 : Nat) (Option.some (Jvm.ClassFile.FieldType.object "java/lang/Long")), Jvm.Cond.code ({ cls := "java/lang/Long", name := "<init>", desc := "(J)V" } : Jvm.MethodName) jdk_35_method_26_code (3 : Nat) (Option.none : Option Jvm.ClassFile.FieldType), Jvm.Cond.code ({ cls := "java/lang/Number", name := "<init>", desc := "()V" } : Jvm.MethodName) jdk_18_method_1_code (1 : Nat) (Option.none : Option Jvm.ClassFile.FieldType)]
set_option maxRecDepth 65536 in
theorem codes_eq : words1.filter isCode = codes1 := rfl
theorem w_codes : ∀ c ∈ words1.filter isCode, c.before args0 about1 = true := by
  rw [codes_eq]
  intro c hc
  simp only [codes1, List.mem_cons, List.not_mem_nil, or_false] at hc
  rcases hc with rfl | rfl | rfl | rfl | rfl | rfl | rfl | rfl | rfl
  · exact w_c0
  · exact w_c1
  · exact w_c2
  · exact w_c3
  · exact w_c4
  · exact w_c5
  · exact w_c6
  · exact w_c7
  · exact w_c8
set_option maxRecDepth 65536 in
theorem w_t1 : (words1.take 24).all (fun c => isCode c || c.before args0 about1) = true := by decide +kernel
set_option maxRecDepth 65536 in
theorem w_t2 : ((words1.drop 24).take 24).all (fun c => isCode c || c.before args0 about1) = true := by decide +kernel
set_option maxRecDepth 65536 in
theorem w_t3 : ((words1.drop 24).drop 24).all (fun c => isCode c || c.before args0 about1) = true := by decide +kernel
theorem w_tables : (allAtoms (Jvm.Cond.code x code maxLocals ret :: tables_1)).before args0 about1 = true := by
  rw [allAtoms_all]
  show words1.all (fun c => c.before args0 about1) = true
  refine all_split ?_ w_codes
  rw [← List.take_append_drop 24 words1, List.all_append, w_t1, ← List.take_append_drop 24 (words1.drop 24), List.all_append, w_t2, w_t3]
  rfl
set_option maxRecDepth 65536 in
theorem w_rest : rest_1_c.before args0 about1 = true := by decide +kernel
set_option maxRecDepth 65536 in
theorem w_case : (Jvm.Cond.and given_1 narrow_1).before args0 about1 = true := by decide +kernel
theorem w_applies : (headSpec (Jvm.Cond.code x code maxLocals ret :: tables_1) room_1).applies x e0.platform about1 = true :=
  (Spec.applies_iff w_frames).mpr ⟨w_running, w_runnable, w_alone, w_named, w_hears, w_ripe, w_room, w_tables⟩
theorem atStart : AtStart classFile x code maxLocals ret World_1 tables_1 room_1 Calls_1 rest_1 Pre_1 launch0 p0 e0 about1 theMethod args0 below0 :=
  ⟨lists_1, trivial, launch0.admits_env _ _ _, launch0.least_env, fairChoices_fair.cas, fairChoices_fair.clock, w_frames, w_args, w_heap, w_applies, trivial, w_rest, w_case⟩
end start1
theorem witness_1 : WitnessClaimed_1 := ⟨start1.p0, start1.e0, start1.about1, start1.theMethod, start1.args0, start1.below0, start1.atStart⟩
end Jvm.Pilot.@@N@@
