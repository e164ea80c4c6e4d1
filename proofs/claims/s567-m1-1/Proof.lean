import JvmDerived
import JvmDerived.Pilot.@@N@@Statement
import JvmDerived.Pilot.@@N@@Code
set_option linter.unusedVariables false
set_option linter.unusedSimpArgs false
namespace Jvm.RoadKit
open Sem ClassFile Op Lib Jvm.Stand Jvm.Free Jvm.LawKit
section New
variable {p : Program} {l : Launch} {e : Env} {R : Room} {s : State} {m : MethodId} {args : Array Value} {below : List Frame} {meth : Method} {c : Code} {T : State} {locs : List Loc} {cells slots : Nat}
theorem retI (X : Stand p l e R s m args below meth c T locs cells slots) (hx : p.tables.exec = Jvm.exec) {pc : Nat} {Ls : Array Slot} {z : Int32} {rest : List Value} (hret : meth.sig.returnType = some .int) (hd : decode c.code pc = .ok (.ireturn, 1)) {fs : List Frame}
    (hl : ∀ (f : JFrame) (acts : List Action), f.method = m → f.locked = none → f.entered = [] → (doReturn e (T.setTop f) acts (some (.int z))).1 = T.setFrames fs) : Steps p.tables e below (T.setTop (mkF m pc Ls (.int z :: rest))) (T.setFrames fs) := by
  have hm' : T.vm.method? m = some meth := X.method'
  have hn : narrow .int (.int z) = .int z := rfl
  show Steps p.tables e below (T.setTop { method := m, pc := pc, locals := Ls, stack := _ :: rest, locked := none }) _
  jvm_step X.here [X.here.top, hx, hd, hm', hret, hn]
  first | (intro acts; rw [hl _ acts rfl rfl rfl]) | rw [hl _ _ rfl rfl rfl]
  exact Steps.refl _
end New
end Jvm.RoadKit
namespace Jvm.Pilot.@@N@@
open Jvm Jvm.ClassFile Sem Op Lib Jvm.Free Jvm.Stand Jvm.LawKit Jvm.RoadKit Bundle Jvm.Pilot.@@N@@.Jvm.D
theorem own_n0 {Z : State} {n0 : Nat} {h : Heap} (O : Old Z n0 h) : n0 ≤ h.size := O.1 ▸ O.2.1
theorem own_born {Z : State} {n0 : Nat} {h : Heap} {b : Addr} (O : Old Z n0 h) (q : h.size ≤ b) : n0 ≤ b := Nat.le_trans (own_n0 O) q
theorem own_eqle {b : Addr} {n : Nat} (q : b = n) : n ≤ b := Nat.le_of_eq q.symm
theorem own_ltn {a b : Addr} {n : Nat} (h : a < n) (q : n ≤ b) : a ≠ b := Nat.ne_of_lt (Nat.lt_of_lt_of_le h q)
theorem own_oldlt {Z : State} {n0 : Nat} {h : Heap} {a : Addr} (O : Old Z n0 h) (q : a < Z.heap.size) : a < h.size := Nat.lt_of_lt_of_le q O.2.1
theorem W {Z : State} {a0 : Array Value} (hw : ∀ d ∈ tables_1, d.before a0 Z = true) (i : Nat) {d : Jvm.Cond} (h : tables_1[i]? = some d) : d.before a0 Z = true := hw d (List.mem_of_getElem? h)
abbrev MF (l : Launch) (Z : State) (h0 : Heap) (y : MethodName) (b : ByteArray) (ml : Nat) (rt : Option FieldType) (ws : List Jvm.Cond) (rm : Room) (as : Array Value) (Q : Option Value → Heap → List Loc → Prop) : Prop :=
  MetFree l y (head1 (Jvm.Cond.code y b ml rt :: ws) rm) (fun a U => a = as ∧ Z.Warmed39 U.vm ∧ U.heap = h0) (fun _ _ _ _ _ => True) (fun _ U o U' => ∃ v L, o = .returned v ∧ Q v U'.heap L ∧ FrameEnd U o U' L rm.cells rm.slots)
section OwnCall
variable {p : Program} {l : Launch} {e : Env} {R : Room} {s : State} {m : MethodId} {args : Array Value} {below : List Frame} {meth : Method} {c : Code} {T : State} {locs : List Loc} {cells slots : Nat} {Z : State} {a0 : Array Value} {h : Heap} {own C : String} {index count : Nat} {y z : MethodName} {bytes : ByteArray} {maxL : Nat} {ret r : Option FieldType} {rm : Room} {argsL : List Value} {Q : Option Value → Heap → List Loc → Prop} {pc W : Nat} {ps : List FieldType} {b : Addr}
theorem cS (X : Stand p l e R s m args below meth c T locs cells slots) (hx : p.tables.exec = Jvm.exec) (hZ : Z.Warmed39 s.vm) (hown : s.vm.findClass own = some m.cls) (w1 : (Jvm.Cond.methodLink own index y).before a0 Z = true) (w2 : (Jvm.Cond.static y).before a0 Z = true) (w3 : (Jvm.Cond.initialized y.cls).before a0 Z = true) (wc : (Jvm.Cond.code y bytes maxL ret).before a0 Z = true) (hy : y.cls ≠ "java/lang/invoke/MethodHandle" ∧ y.cls ≠ "java/lang/invoke/VarHandle")
    (hM : MF l Z h y bytes maxL ret [] rm argsL.toArray Q) (eT : T.heap = h) (Ls : Array Slot) (rest : List Value) (hsz : Ls.size = c.maxLocals) (hd : decode c.code pc = .ok (.invokestatic index, 3)) (pd : parseMethodDescriptor y.desc = some ⟨ps, r⟩) (hl : argsL.length = ps.length)
    (hW : (rest.map fun v => v.category).sum ≤ W) (hf : rm.frames + 1 ≤ R.frames) (hlo : W + (maxL + 11) + rm.locals ≤ R.locals) (hc : cells + rm.cells ≤ R.cells) (hs : slots + rm.slots ≤ R.slots) :
    ∃ v T' L, Stand p l e R s m args below meth c T' (locs ++ L) (cells + rm.cells) (slots + rm.slots) ∧ Q v T'.heap L ∧ ∀ t, Steps p.tables e below (T'.setTop (mkF m (pc + 3) Ls (v.toList ++ rest))) t → Steps p.tables e below (T.setTop (mkF m pc Ls (argsL.reverse ++ rest))) t := by
  obtain ⟨v, _, ⟨T', L', k', n'⟩, -, X', ⟨L, hQ, l1, y1, z1⟩, st⟩ := Jvm.LawKit.callS X hx hown (mvT hZ w1) (mvT hZ w2) (mvT hZ w3) (mvT hZ wc) hy (backOf (W := W) hM hZ wc w3 hf hlo) (g := mkF m pc Ls (argsL.reverse ++ rest)) rfl hsz (argsL := argsL) (rest := rest) (lenOf pd hl) rfl (by show 2 * 0 + _ ≤ _; omega) hd (fun _ _ => ⟨rfl, eT, hc, hs⟩)
  dsimp only [Pt.U, Pt.locs, Pt.cells, Pt.slots] at X' l1 y1 z1 st hQ
  subst l1 y1 z1
  exact ⟨v, T', L, X', hQ, st⟩
theorem cV (X : Stand p l e R s m args below meth c T locs cells slots) (hx : p.tables.exec = Jvm.exec) (hZ : Z.Warmed39 s.vm) (hown : s.vm.findClass own = some m.cls) (w1 : (Jvm.Cond.methodLink own index y).before a0 Z = true) (w2 : (Jvm.Cond.declares y).before a0 Z = true) (nf : NotFace s y) (w4 : (Jvm.Cond.selects C y z).before a0 Z = true) (w5 : (Jvm.Cond.instanceMethod z).before a0 Z = true) (wc : (Jvm.Cond.code z bytes maxL ret).before a0 Z = true) (w3 : (Jvm.Cond.initialized z.cls).before a0 Z = true) (hy : y.cls ≠ "java/lang/invoke/MethodHandle" ∧ y.cls ≠ "java/lang/invoke/VarHandle")
    (hM : MF l Z h z bytes maxL ret [] rm (Value.ref b :: argsL).toArray Q) (eT : T.heap = h) (E : Exa Z h b C) (Ls : Array Slot) (rest : List Value) (hsz : Ls.size = c.maxLocals) (hd : decode c.code pc = .ok (.invokevirtual index, 3)) (pd : parseMethodDescriptor y.desc = some ⟨ps, r⟩) (hl : argsL.length = ps.length)
    (hW : (rest.map fun v => v.category).sum ≤ W) (hf : rm.frames + 1 ≤ R.frames) (hlo : W + (maxL + 11) + rm.locals ≤ R.locals) (hc : cells + rm.cells ≤ R.cells) (hs : slots + rm.slots ≤ R.slots) :
    ∃ v T' L, Stand p l e R s m args below meth c T' (locs ++ L) (cells + rm.cells) (slots + rm.slots) ∧ Q v T'.heap L ∧ ∀ t, Steps p.tables e below (T'.setTop (mkF m (pc + 3) Ls (v.toList ++ rest))) t → Steps p.tables e below (T.setTop (mkF m pc Ls (argsL.reverse ++ Value.ref b :: rest))) t := by
  obtain ⟨cB, kB, q1, q2, q3⟩ := isOf hZ eT E
  obtain ⟨v, _, ⟨T', L', k', n'⟩, -, X', ⟨L, hQ, l1, y1, z1⟩, st⟩ := X.virtualBack hx hown (mvT hZ w1) (mvT hZ w2) nf (mvT hZ w4) (mvT hZ w5) hy (backOf (W := W) hM hZ wc w3 hf hlo) q1 q3 (g := mkF m pc Ls (argsL.reverse ++ Value.ref b :: rest)) rfl hsz (Steps.refl _) (argsL := argsL) (rest := rest) (lenOf pd hl) rfl (by show 2 * 0 + _ ≤ _; omega) hd (fun _ _ => ⟨rfl, eT, hc, hs⟩)
  dsimp only [Pt.U, Pt.locs, Pt.cells, Pt.slots] at X' l1 y1 z1 st hQ
  subst l1 y1 z1
  exact ⟨v, T', L, X', hQ, fun t k => st.trans k⟩
theorem cI (X : Stand p l e R s m args below meth c T locs cells slots) (hx : p.tables.exec = Jvm.exec) (hZ : Z.Warmed39 s.vm) (hown : s.vm.findClass own = some m.cls) (w1 : (Jvm.Cond.methodLink own index y).before a0 Z = true) (w5 : (Jvm.Cond.instanceMethod y).before a0 Z = true) (wc : (Jvm.Cond.code y bytes maxL none).before a0 Z = true) (w3 : (Jvm.Cond.initialized y.cls).before a0 Z = true) (hn : y.name = "<init>") (hy : y.cls ≠ "java/lang/invoke/MethodHandle" ∧ y.cls ≠ "java/lang/invoke/VarHandle")
    (hM : MF l Z h y bytes maxL none [] rm (Value.ref b :: argsL).toArray Q) (eT : T.heap = h) (Ls : Array Slot) (rest : List Value) (hsz : Ls.size = c.maxLocals) (hd : decode c.code pc = .ok (.invokespecial index, 3)) (pd : parseMethodDescriptor y.desc = some ⟨ps, r⟩) (hl : argsL.length = ps.length)
    (hW : (rest.map fun v => v.category).sum ≤ W) (hf : rm.frames + 1 ≤ R.frames) (hlo : W + (maxL + 11) + rm.locals ≤ R.locals) (hc : cells + rm.cells ≤ R.cells) (hs : slots + rm.slots ≤ R.slots) :
    ∃ v T' L, Stand p l e R s m args below meth c T' (locs ++ L) (cells + rm.cells) (slots + rm.slots) ∧ Q v T'.heap L ∧ ∀ t, Steps p.tables e below (T'.setTop (mkF m (pc + 3) Ls (v.toList ++ rest))) t → Steps p.tables e below (T.setTop (mkF m pc Ls (argsL.reverse ++ Value.ref b :: rest))) t := by
  obtain ⟨v, _, ⟨T', L', k', n'⟩, -, X', ⟨L, hQ, l1, y1, z1⟩, st⟩ := X.specialBack hx hn hown (mvT hZ w1) (mvT hZ w5) (mvT hZ wc) hy (backOf (W := W) hM hZ wc w3 hf hlo) (g := mkF m pc Ls (argsL.reverse ++ Value.ref b :: rest)) rfl hsz (Steps.refl _) (a := b) (argsL := argsL) (rest := rest) (lenOf pd hl) rfl (by show 2 * 0 + _ ≤ _; omega) hd (fun _ _ => ⟨rfl, eT, hc, hs⟩)
  dsimp only [Pt.U, Pt.locs, Pt.cells, Pt.slots] at X' l1 y1 z1 st hQ
  subst l1 y1 z1
  exact ⟨v, T', L, X', hQ, fun t k => st.trans k⟩
theorem cF (X : Stand p l e R s m args below meth c T locs cells slots) (hx : p.tables.exec = Jvm.exec) (hZ : Z.Warmed39 s.vm) (hown : s.vm.findClass own = some m.cls) (w1 : (Jvm.Cond.methodLink own index y).before a0 Z = true) (w2 : (Jvm.Cond.declares y).before a0 Z = true) (wi : (Jvm.Cond.interfaceMethod y.cls y.cls y.name y.desc).before args s = true) (w4 : (Jvm.Cond.selects C y z).before a0 Z = true) (w5 : (Jvm.Cond.instanceMethod z).before a0 Z = true) (w6 : (Jvm.Cond.publicMethod z).before a0 Z = true) (w7 : (Jvm.Cond.unhidden C y.name y.desc).before a0 Z = true) (w8 : (Jvm.Cond.castable C y.cls).before a0 Z = true) (wc : (Jvm.Cond.code z bytes maxL ret).before a0 Z = true) (w3 : (Jvm.Cond.initialized z.cls).before a0 Z = true) (hy : y.cls ≠ "java/lang/invoke/MethodHandle" ∧ y.cls ≠ "java/lang/invoke/VarHandle")
    (hM : MF l Z h z bytes maxL ret [] rm (Value.ref b :: argsL).toArray Q) (eT : T.heap = h) (E : Exa Z h b C) (Ls : Array Slot) (rest : List Value) (hsz : Ls.size = c.maxLocals) (hd : decode c.code pc = .ok (.invokeinterface index count, 5)) (pd : parseMethodDescriptor y.desc = some ⟨ps, r⟩) (hl : argsL.length = ps.length)
    (hW : (rest.map fun v => v.category).sum ≤ W) (hf : rm.frames + 1 ≤ R.frames) (hlo : W + (maxL + 11) + rm.locals ≤ R.locals) (hc : cells + rm.cells ≤ R.cells) (hs : slots + rm.slots ≤ R.slots) :
    ∃ v T' L, Stand p l e R s m args below meth c T' (locs ++ L) (cells + rm.cells) (slots + rm.slots) ∧ Q v T'.heap L ∧ ∀ t, Steps p.tables e below (T'.setTop (mkF m (pc + 5) Ls (v.toList ++ rest))) t → Steps p.tables e below (T.setTop (mkF m pc Ls (argsL.reverse ++ Value.ref b :: rest))) t := by
  obtain ⟨cB, kB, q1, q2, q3⟩ := isOf hZ eT E
  obtain ⟨v, _, ⟨T', L', k', n'⟩, -, X', ⟨L, hQ, l1, y1, z1⟩, st⟩ := X.interfaceBack hx hown (mvT hZ w1) (mvT hZ w2) wi (mvT hZ w4) (mvT hZ w5) (mvT hZ w6) (mvT hZ w7) (mvT hZ w8) hy (backOf (W := W) hM hZ wc w3 hf hlo) q1 q2 q3 (g := mkF m pc Ls (argsL.reverse ++ Value.ref b :: rest)) rfl hsz (Steps.refl _) (argsL := argsL) (rest := rest) (lenOf pd hl) rfl (by show 2 * 0 + _ ≤ _; omega) hd (fun _ _ => ⟨rfl, eT, hc, hs⟩)
  dsimp only [Pt.U, Pt.locs, Pt.cells, Pt.slots] at X' l1 y1 z1 st hQ
  subst l1 y1 z1
  exact ⟨v, T', L, X', hQ, fun t k => st.trans k⟩
end OwnCall
abbrev vi (x : Int32) : Slot := .val (.int x)
abbrev vr (x : Addr) : Slot := .val (.ref x)
def own_minI (x y : Int32) : Int32 := if y < x then y else x
def own_maxI (x y : Int32) : Int32 := if x < y then y else x
def own_minJ (x y : Int64) : Int64 := if y < x then y else x
def own_se (x y a b : Int32) : Int32 := if x = y then a else b
def own_sl (x y a b : Int32) : Int32 := if x < y then a else b
def own_seJ (x y : Int32) (a b : Int64) : Int64 := if x = y then a else b
def own_slJ (x y : Int32) (a b : Int64) : Int64 := if x < y then a else b
theorem own_narb (x : Int32) (h : x = 0 ∨ x = 1) : nar .boolean x = x := by
  rcases h with rfl | rfl <;> decide
theorem own_eqint {args : Array Value} {first s : State} {o : Option Outcome} {idx : List Nat} {a : Term} {n : Int32} (h : (Jvm.Cond.eq a (Term.int n)).value args first o s idx = some true) : a.eval args first o idx s = some (.int n) := by
  obtain ⟨x, y, h1, h2, k1, k2⟩ := cmp_v (Or.inl h)
  have h2' : y = .int n := (Option.some.inj (h2.symm.trans (Term.int_eval n)))
  subst h2'
  obtain ⟨z, rfl⟩ := k2
  rw [h1]
  have q := h
  simp only [Jvm.Cond.value, h1, Term.int_eval] at q
  simpa using q

theorem own_boxJ (q : Int64) (h1 : ¬ (lcmpW q (-128 : Int64)) < (0 : Int32)) (h2 : ¬ (0 : Int32) < (lcmpW q (127 : Int64))) : ¬ ((q.toInt32) + (128 : Int32)) < (0 : Int32) ∧ ((q.toInt32) + (128 : Int32)) < (256 : Int32) := by
  rw [lw_lt, Int64.lt_iff_toInt_lt] at h1
  rw [lw_gt, Int64.lt_iff_toInt_lt] at h2
  have e1 : (-128 : Int64).toInt = -128 := by decide
  have e2 : (127 : Int64).toInt = 127 := by decide
  have e3 : (128 : Int32).toInt = 128 := by decide
  have e4 : (256 : Int32).toInt = 256 := by decide
  have e5 : (0 : Int32).toInt = 0 := by decide
  have a := c_l2i q
  have b := c_iadd q.toInt32 128
  have r1 := rng32 q.toInt32
  have r2 := rng32 (q.toInt32 + 128)
  rw [Int32.lt_iff_toInt_lt, Int32.lt_iff_toInt_lt]
  omega
theorem own_size {s : State} {args : Array Value} {t : Term} {a : Addr} {c : Cell} {ty : FieldType} {n : Int32} (ev : t.eval args s none [] s = some (.ref a)) (A : Arr s s.heap a c ty) (w : (Jvm.Cond.eq (Term.length t) (Term.int n)).value args s none s [] = some true) : c.slots.size < 2 ^ 31 ∧ c.slots.size.toInt32 = n := by
  have hl := own_eqint w
  have hf := A.fin (Vm.Alike.refl _)
  constructor
  · by_cases h : c.slots.size < 2 ^ 31
    · exact h
    · simp [Term.eval, ev, hf, h] at hl
  · obtain ⟨a', cell, e1, e2, e3⟩ := Term.length_spec hl
    cases ev.symm.trans e1
    cases hf.symm.trans e2
    exact (Value.int.inj e3).symm
theorem own_boxI (q : Int32) (h1 : ¬ q < (-128 : Int32)) (h2 : ¬ (127 : Int32) < q) : ¬ (q + (128 : Int32)) < (0 : Int32) ∧ (q + (128 : Int32)) < (256 : Int32) := by
  rw [Int32.lt_iff_toInt_lt] at h1 h2
  have e1 : (-128 : Int32).toInt = -128 := by decide
  have e2 : (127 : Int32).toInt = 127 := by decide
  have e3 : (128 : Int32).toInt = 128 := by decide
  have e4 : (256 : Int32).toInt = 256 := by decide
  have e5 : (0 : Int32).toInt = 0 := by decide
  have b := c_iadd q 128
  have r1 := rng32 q
  have r2 := rng32 (q + 128)
  rw [Int32.lt_iff_toInt_lt, Int32.lt_iff_toInt_lt]
  omega

section OwnHeld
variable {p : Program} {l : Launch} {e : Env} {R : Room} {s : State} {m : MethodId} {args : Array Value} {below : List Frame} {meth : Method} {c : Code} {T : State} {locs : List Loc} {cells slots : Nat} {Z : State} {a0 : Array Value} {EL : List (String × Nat)} {h h' : Heap} {vm vm0 vm1 : Vm} {n0 N : Nat}
def own_CH (Z : State) (EL : List (String × Nat)) (n0 : Nat) (vm : Vm) (h : Heap) : Prop := CHv Z EL vm h ∧ ∀ x, n0 ≤ x → Safe Z EL vm h x
theorem own_CH.keep (K : Keep h h' ([] : List Addr)) (H : own_CH Z EL n0 vm h) : own_CH Z EL n0 vm h' :=
  have A := H.1.keepStep K (fun _ hx => by cases hx)
  ⟨A.1, fun x hx B => H.2 x hx (A.2 x B)⟩
theorem own_CH.at (X : Stand p l e R (s.setVm vm0) m args below meth c T locs cells slots) (hZ : Z.Warmed39 vm0) (w : EW Z a0 EL) (H : own_CH Z EL n0 vm0 h) : own_CH Z EL n0 T.vm h :=
  have A := CHv.at X hZ w H.1
  ⟨A.1, fun x hx B => (A.2.2 x B).elim (H.2 x hx) (fun q => Safe.new q B)⟩
theorem own_backOfSH {y : MethodName} {bytes : ByteArray} {maxL : Nat} {ret : Option FieldType} {rm : Room} {len W : Nat} {as' : Array Value} {Q : Option Value → Heap → List Loc → Prop}
    (hM : MetFree l y (head1 [Cond.code y bytes maxL ret] rm) (fun a U => a = as' ∧ Z.Warmed39 U.vm ∧ U.heap = h ∧ own_CH Z EL n0 U.vm h) (fun _ _ _ _ _ => True) (fun _ U o U' => ∃ v L, o = .returned v ∧ Q v U'.heap L ∧ ReturnedEndW U o U' L rm.cells rm.slots))
    (hZ : Z.Warmed39 vm0) (wc : (Cond.code y bytes maxL ret).before a0 Z = true) (wz : (Cond.initialized y.cls).before a0 Z = true) (hf : rm.frames + 1 ≤ R.frames) (hl : W + (maxL + 11) + rm.locals ≤ R.locals) (hEL : EW Z a0 EL) (H : own_CH Z EL n0 vm0 h) :
    BackS l R p e below (s.setVm vm0) args y len W (fun A a => a = as' ∧ A.U.heap = h ∧ A.cells + rm.cells ≤ R.cells ∧ A.slots + rm.slots ≤ R.slots)
      (fun A _ v B => ∃ L, Q v B.U.heap L ∧ B.locs = A.locs ++ L ∧ B.cells = A.cells + rm.cells ∧ B.slots = A.slots + rm.slots) :=
  BackS.of_freeW (bytes := bytes) (maxL := maxL) (ret := ret) (E := fun _ _ o t L k n => k = rm.cells ∧ n = rm.slots ∧ ∃ v, o = .returned v ∧ Q v t.heap L) hM hf hl
    (fun m meth c A a Y hp => have hU : Z.Warmed39 A.U.vm := wtrans (s := s.setVm vm0) hZ Y.warmed
      ⟨by show (Cond.and _ .tt).before a A.U = true; rw [Cond.before_and, mv hU wc]; rfl, mv hU wc, mv hU wz, hp.2.2.1, hp.2.2.2⟩)
    (fun m meth c A a g mk Y hp => ⟨hp.1, wtrans (s := s.setVm vm0) hZ Y.warmed, hp.2.1, (show own_CH Z EL n0 A.U.vm h from own_CH.at Y hZ hEL H)⟩) (fun _ _ _ _ _ _ _ _ _ => trivial)
    (fun _ _ _ _ ⟨v, L, h1, h2, h3⟩ => ⟨L, _, _, h3, rfl, rfl, v, h1, h2⟩)
    (fun m meth c A a g mk v t L k n Y hp _ _ ⟨e1, e2, v', e3, e4⟩ => by cases e3; subst e1 e2; exact ⟨L, e4, rfl, rfl, rfl⟩)
def own_CS (Z : State) (EL : List (String × Nat)) (n0 N : Nat) (vm : Vm) (h : Heap) : Prop := CHv Z EL vm h ∧ ∀ x, n0 ≤ x → x < N → Safe Z EL vm h x
theorem own_CS.start (H : own_CH Z EL n0 vm h) : own_CS Z EL n0 N vm h := ⟨H.1, fun x hx _ => H.2 x hx⟩
theorem own_CS.ldc (H : own_CS Z EL n0 N vm h) (A : CHr Z EL vm h vm1 h') (hN : N ≤ h.size) : own_CS Z EL n0 N vm1 h' := ⟨A.1, fun x hx hn => A.safe (Nat.lt_of_lt_of_le hn hN) (H.2 x hx hn)⟩
theorem own_CS.ext (H : own_CS Z EL n0 N vm h) (E : Ext h h') : own_CS Z EL n0 N vm h' := ⟨H.1.ext E, fun x a b => Safe.ext E H.1 (H.2 x a b)⟩
theorem own_CS.wr {a : Addr} {sl : Nat} {v : Value} (H : own_CS Z EL n0 N vm h) (W : Wr h h' a sl v) (ha : n0 ≤ a) (hb : a < N) : own_CS Z EL n0 N vm h' :=
  ⟨H.1.wr W (H.2 a ha hb), fun x p q => Safe.wr W (H.2 a ha hb) H.1 (H.2 x p q)⟩
theorem own_CS.keep {ws : List Addr} (H : own_CS Z EL n0 N vm h) (K : Keep h h' ws) (hs : ∀ x ∈ ws, n0 ≤ x ∧ x < N) : own_CS Z EL n0 N vm h' :=
  ⟨H.1.keep K (fun x hx => H.2 x (hs x hx).1 (hs x hx).2), fun x p q => Safe.keep K (fun x hx => H.2 x (hs x hx).1 (hs x hx).2) H.1 (H.2 x p q)⟩
end OwnHeld

theorem own_nat256 (c : Int32) (h0 : ¬ c < 0) (h1 : ¬ (255 : Int32) < c) : ∃ i : Fin 256, c = Int32.ofNat i.val := by
  have e0 : (0 : Int) ≤ c.toInt := by
    rw [Int32.lt_iff_toInt_lt] at h0
    simpa using h0
  have e1 : c.toInt ≤ 255 := by
    rw [Int32.lt_iff_toInt_lt] at h1
    simpa using h1
  refine ⟨⟨c.toInt.toNat, by omega⟩, ?_⟩
  apply Int32.toInt_inj.mp
  have e2 : c.toInt.toNat < 2 ^ 31 := by omega
  show c.toInt = (Int32.ofNat c.toInt.toNat).toInt
  rw [Int32.toInt_ofNat_of_lt e2]
  omega
theorem own_255 (x : Int32) : ¬ (255 : Int32) < (x &&& (255 : Int32)) := by
  rw [Int32.lt_iff_toBitVec_slt, Int32.toBitVec_and]
  intro h
  have e : (x.toBitVec &&& (255 : Int32).toBitVec).toNat ≤ 255 := by
    rw [BitVec.toNat_and]
    exact Nat.and_le_right
  generalize (x.toBitVec &&& (255 : Int32).toBitVec) = y at h e
  simp [BitVec.slt, BitVec.toInt] at h
  omega
theorem own_and0 (x : Int32) : ¬ (x &&& (255 : Int32)) < 0 := by
  rw [Int32.lt_iff_toBitVec_slt, Int32.toBitVec_and]
  intro h
  have e : (x.toBitVec &&& (255 : Int32).toBitVec).toNat ≤ 255 := by
    rw [BitVec.toNat_and]
    exact Nat.and_le_right
  generalize (x.toBitVec &&& (255 : Int32).toBitVec) = y at h e
  simp [BitVec.slt, BitVec.toInt] at h
  omega
theorem own_and3 (x k : Int32) (h : k = x &&& (3 : Int32)) : k = 0 ∨ k = 1 ∨ k = 2 ∨ k = 3 := by
  have e : (x.toBitVec &&& (3 : Int32).toBitVec).toNat ≤ 3 := by
    rw [BitVec.toNat_and]
    exact Nat.and_le_right
  have q : k.toBitVec.toNat = 0 ∨ k.toBitVec.toNat = 1 ∨ k.toBitVec.toNat = 2 ∨ k.toBitVec.toNat = 3 := by
    rw [h, Int32.toBitVec_and]
    generalize (x.toBitVec &&& (3 : Int32).toBitVec) = y at e
    omega
  rcases q with q | q | q | q
  · exact Or.inl (Int32.toBitVec_inj.mp (BitVec.eq_of_toNat_eq q))
  · exact Or.inr (Or.inl (Int32.toBitVec_inj.mp (BitVec.eq_of_toNat_eq q)))
  · exact Or.inr (Or.inr (Or.inl (Int32.toBitVec_inj.mp (BitVec.eq_of_toNat_eq q))))
  · exact Or.inr (Or.inr (Or.inr (Int32.toBitVec_inj.mp (BitVec.eq_of_toNat_eq q))))
theorem own_c1 (c : Int32) (h0 : ¬ c < 0) (h1 : ¬ (255 : Int32) < c) : ¬ (255 : Int32) < nar .char c := by
  obtain ⟨i, rfl⟩ := own_nat256 c h0 h1
  revert i; decide +kernel
theorem own_c2 (c : Int32) (h0 : ¬ c < 0) (h1 : ¬ (255 : Int32) < c) : ((c.toUInt32 >>> ((8 : Int32) &&& 31).toUInt32).toInt32) = 0 := by
  obtain ⟨i, rfl⟩ := own_nat256 c h0 h1
  revert i; decide +kernel
theorem own_b45 (c : Int32) (h0 : ¬ c < 0) (h1 : ¬ (255 : Int32) < c) : nar .byte ((nar .char c).toInt8.toInt32) = 45 ↔ c = 45 := by
  obtain ⟨i, rfl⟩ := own_nat256 c h0 h1
  revert i; decide +kernel
theorem own_b61 (c : Int32) (h0 : ¬ c < 0) (h1 : ¬ (255 : Int32) < c) : nar .byte ((nar .char c).toInt8.toInt32) = 61 ↔ c = 61 := by
  obtain ⟨i, rfl⟩ := own_nat256 c h0 h1
  revert i; decide +kernel
theorem own_la (c d s : Int32) (h0 : ¬ c < 0) (h1 : ¬ (255 : Int32) < c) (s0 : ¬ s < 0) (s1 : ¬ (255 : Int32) < s) (s2 : ¬ s = 61) (h : d = own_se c 61 s c) : ¬ d < 0 ∧ ¬ (255 : Int32) < d ∧ ¬ d = 61 := by
  subst h
  unfold own_se
  by_cases q : c = 61
  · rw [if_pos q]; exact ⟨s0, s1, s2⟩
  · rw [if_neg q]; exact ⟨h0, h1, q⟩

def own_EL : List (String × Nat) := [("com/example/runqueue/runqueue/Arguments", 29), ("com/example/runqueue/runqueue/Arguments", 35)]
theorem own_sub : ∀ p ∈ own_EL, p ∈ consts_1 := by decide
theorem own_EW {Z : State} {a0 : Array Value} (hw : ∀ d ∈ tables_1, d.before a0 Z = true) : EW Z a0 own_EL := EW.cons (W hw 146 rfl) (by decide) (EW.cons (W hw 157 rfl) (by decide) EW.nil)
theorem own_lt0 : (∀ c ∈ "--".toList, c.toNat < 256) ∧ "--".toList.map (fun c => Value.int (Jvm.Lit.byteI c.toNat.toUInt16)) = [(.int (45 : Int32)), (.int (45 : Int32))] := by decide +kernel
theorem own_lt1 : (∀ c ∈ "-".toList, c.toNat < 256) ∧ "-".toList.map (fun c => Value.int (Jvm.Lit.byteI c.toNat.toUInt16)) = [(.int (45 : Int32))] := by decide +kernel
def own_SF (Z : State) : Prop := ∃ v : Value, Sta Z Z.heap "jdk/internal/util/Preconditions" "SIOOBE_FORMATTER" "Ljava/util/function/BiFunction;" v ∧ (v = .null ∨ ∃ a, v = .ref a)
theorem d1_0 : decode jdk_42_method_3_code 0 = .ok (.aload_n 0, 1) := by decide +kernel
theorem d1_1 : decode jdk_42_method_3_code 1 = .ok (.aload_n 1, 1) := by decide +kernel
theorem d1_2 : decode jdk_42_method_3_code 2 = .ok (.iconst 0, 1) := by decide +kernel
theorem d1_3 : decode jdk_42_method_3_code 3 = .ok (.aload_n 1, 1) := by decide +kernel
theorem d1_4 : decode jdk_42_method_3_code 4 = .ok (.arraylength, 1) := by decide +kernel
theorem d1_5 : decode jdk_42_method_3_code 5 = .ok (.aconst_null, 1) := by decide +kernel
theorem d1_6 : decode jdk_42_method_3_code 6 = .ok (.invokespecial 27, 3) := by decide +kernel
theorem d2_0 : decode jdk_42_method_149_code 0 = .ok (.aload_n 0, 1) := by decide +kernel
theorem d2_1 : decode jdk_42_method_149_code 1 = .ok (.invokespecial 1, 3) := by decide +kernel
theorem d2_4 : decode jdk_42_method_149_code 4 = .ok (.iload_n 3, 1) := by decide +kernel
theorem d2_5 : decode jdk_42_method_149_code 5 = .ok (.ifCond .ne 22, 3) := by decide +kernel
theorem d2_27 : decode jdk_42_method_149_code 27 = .ok (.getstatic 38, 3) := by decide +kernel
theorem d2_30 : decode jdk_42_method_149_code 30 = .ok (.ifCond .eq 28, 3) := by decide +kernel
theorem d2_33 : decode jdk_42_method_149_code 33 = .ok (.aload_n 1, 1) := by decide +kernel
theorem d2_34 : decode jdk_42_method_149_code 34 = .ok (.iload_n 2, 1) := by decide +kernel
theorem d2_35 : decode jdk_42_method_149_code 35 = .ok (.iload_n 3, 1) := by decide +kernel
theorem d2_36 : decode jdk_42_method_149_code 36 = .ok (.invokestatic 177, 3) := by decide +kernel
theorem d4_0 : decode jdk_52_method_16_code 0 = .ok (.iload_n 2, 1) := by decide +kernel
theorem d4_1 : decode jdk_52_method_16_code 1 = .ok (.newarray .byte, 2) := by decide +kernel
theorem d4_3 : decode jdk_52_method_16_code 3 = .ok (.astore_n 3, 1) := by decide +kernel
theorem d4_4 : decode jdk_52_method_16_code 4 = .ok (.aload_n 0, 1) := by decide +kernel
theorem d4_5 : decode jdk_52_method_16_code 5 = .ok (.iload_n 1, 1) := by decide +kernel
theorem d4_6 : decode jdk_52_method_16_code 6 = .ok (.aload_n 3, 1) := by decide +kernel
theorem d4_7 : decode jdk_52_method_16_code 7 = .ok (.iconst 0, 1) := by decide +kernel
theorem d4_8 : decode jdk_52_method_16_code 8 = .ok (.iload_n 2, 1) := by decide +kernel
theorem d4_9 : decode jdk_52_method_16_code 9 = .ok (.invokestatic 115, 3) := by decide +kernel
theorem d5_0 : decode jdk_52_method_21_code 0 = .ok (.iconst 0, 1) := by decide +kernel
theorem d5_1 : decode jdk_52_method_21_code 1 = .ok (.istore 5, 2) := by decide +kernel
theorem d5_3 : decode jdk_52_method_21_code 3 = .ok (.iload 5, 2) := by decide +kernel
theorem d5_5 : decode jdk_52_method_21_code 5 = .ok (.iload 4, 2) := by decide +kernel
theorem d5_7 : decode jdk_52_method_21_code 7 = .ok (.if_icmp .ge 37, 3) := by decide +kernel
theorem d5_10 : decode jdk_52_method_21_code 10 = .ok (.aload_n 0, 1) := by decide +kernel
theorem d5_11 : decode jdk_52_method_21_code 11 = .ok (.iload_n 1, 1) := by decide +kernel
theorem d5_12 : decode jdk_52_method_21_code 12 = .ok (.caload, 1) := by decide +kernel
theorem d5_13 : decode jdk_52_method_21_code 13 = .ok (.istore 6, 2) := by decide +kernel
theorem d5_15 : decode jdk_52_method_21_code 15 = .ok (.iload 6, 2) := by decide +kernel
theorem d5_17 : decode jdk_52_method_21_code 17 = .ok (.sipush 255, 3) := by decide +kernel
theorem d5_20 : decode jdk_52_method_21_code 20 = .ok (.if_icmp .le 6, 3) := by decide +kernel
theorem d5_26 : decode jdk_52_method_21_code 26 = .ok (.aload_n 2, 1) := by decide +kernel
theorem d5_27 : decode jdk_52_method_21_code 27 = .ok (.iload_n 3, 1) := by decide +kernel
theorem d5_28 : decode jdk_52_method_21_code 28 = .ok (.iload 6, 2) := by decide +kernel
theorem d5_30 : decode jdk_52_method_21_code 30 = .ok (.i2b, 1) := by decide +kernel
theorem d5_31 : decode jdk_52_method_21_code 31 = .ok (.bastore, 1) := by decide +kernel
theorem d5_32 : decode jdk_52_method_21_code 32 = .ok (.iinc 1 1, 3) := by decide +kernel
theorem d5_35 : decode jdk_52_method_21_code 35 = .ok (.iinc 3 1, 3) := by decide +kernel
theorem d5_38 : decode jdk_52_method_21_code 38 = .ok (.iinc 5 1, 3) := by decide +kernel
theorem d5_41 : decode jdk_52_method_21_code 41 = .ok (.goto (-38), 3) := by decide +kernel
theorem d5_44 : decode jdk_52_method_21_code 44 = .ok (.iload 4, 2) := by decide +kernel
theorem d5_46 : decode jdk_52_method_21_code 46 = .ok (.ireturn, 1) := by decide +kernel
theorem ef_5_RIRII (m : MethodId) (x0 : Addr) (x1 : Int32) (x2 : Addr) (x3 : Int32) (x4 : Int32) : entryFrame m #[(.ref x0), (.int x1), (.ref x2), (.int x3), (.int x4)] 7 = mkF m 0 #[vr x0, vi x1, vr x2, vi x3, vi x4, .unset, .unset] [] := by first | (simp [entryFrame, mkF, argsToLocals, Value.category]; done) | rfl
theorem pn_0 : plainName "java/lang/StringUTF16" = true := by first | (simp [plainName, overriddenIn]; done) | decide +kernel
def Qrm5 (Z : State) (a1 : Addr) (a2 : Addr) (k3 : ClassId) (p4 : Int32) (p5 : Int32) (k9 : ClassId) (h0 : Heap) (n0 : Nat) (v : Option Value) (h : Heap) (L : List Loc) : Prop := v = some (.int 2) ∧ Fr n0 L ∧ Keep h0 h [a2] ∧ Arv Z h a2 k9 .byte (2 : Int32) [(.int (nar .byte (p4.toInt8.toInt32))), (.int (nar .byte (p5.toInt8.toInt32)))] (.int 0) ∧ Exa Z h a2 "[B"
set_option maxRecDepth 65536 in
set_option maxHeartbeats 40000000 in
theorem rm5 (l : Launch) (Z : State) (a0 : Array Value) (hw : ∀ d ∈ tables_1, d.before a0 Z = true) (ws : List Jvm.Cond) (a1 : Addr) (a2 : Addr) (k3 : ClassId) (p4 : Int32) (p5 : Int32) (k9 : ClassId) (h0 : Heap) (n0 : Nat) (O0 : Old Z n0 h0) (V_6 : Arv Z h0 a1 k3 .char (2 : Int32) [(.int p4), (.int p5)] (.int 0)) (hc8 : ¬ ((255 : Int32) < p4)) (V_10 : Arv Z h0 a2 k9 .byte (2 : Int32) [] (.int 0)) (g_a2 : n0 ≤ a2) (E_14 : Exa Z h0 a2 "[B") (ne_a1_a2 : a1 ≠ a2) (hc17 : ¬ ((255 : Int32) < p5)) :
    MF l Z h0 (⟨"java/lang/StringUTF16", "compress", "([CI[BII)I"⟩ : MethodName) jdk_52_method_21_code 7 (some .int) ws (⟨0, 0, 0, 0⟩ : Room) #[(.ref a1), (.int 0), (.ref a2), (.int 0), (.int 2)] (Qrm5 Z a1 a2 k3 p4 p5 k9 h0 n0) := by
  refine MetFree.of_bodySF (plainFor_of_name pn_0) hisR ?_
  intro p e s m args below meth c s₁ Bd hml0 hP hK
  obtain ⟨rfl, hZ, hh⟩ := hP
  have hx := Bd.exec
  have hby := Bd.bytes
  have X0 : Stand p l e (⟨0, 0, 0, 0⟩ : Room) s m #[(.ref a1), (.int 0), (.ref a2), (.int 0), (.int 2)] below meth c s₁ [] 0 0 := Stand.of_body Bd
  have e0 : s₁.heap = h0 := by rw [← hh, Bd.state]; rfl
  have N0 := Fr.nil n0
  have pre0 : ∀ t, Steps p.tables e below (s₁.setTop (mkF m 0 #[vr a1, vi 0, vr a2, vi 0, vi 2, .unset, .unset] [])) t → Steps p.tables e below (s₁.setTop (entryFrame m #[(.ref a1), (.int 0), (.ref a2), (.int 0), (.int 2)] 7)) t := fun t k => castTop (ef_5_RIRII m a1 (0 : Int32) a2 (0 : Int32) (2 : Int32)) k
  obtain ⟨cl7, Ar7, q7, S7, M7, Hs7, G7⟩ := id V_6
  have hin7 : ¬ ((0 : Int32) < 0 ∨ cl7.slots.size ≤ ((0 : Int32)).toNatClampNeg) := inb_of S7 ⟨by decide, by decide⟩
  have hat7 : cl7.slots[((0 : Int32)).toNatClampNeg]? = some (.int p4) := Has.at Hs7 hin7 rfl
  have V11 : Arv Z h0 a2 k9 .byte (2 : Int32) [(.int 0)] (.int 0) := V_10.pad (pad_rep [] (.int 0) 1)
  obtain ⟨cl12, Ar12, q12, S12, M12, Hs12, G12⟩ := id V11
  have hin12 : ¬ ((0 : Int32) < 0 ∨ cl12.slots.size ≤ ((0 : Int32)).toNatClampNeg) := inb_of S12 ⟨by decide, by decide⟩
  obtain ⟨T13, h13, X13, e13, W13, st13⟩ := stB X0 hx hZ e0 Ar12 (j := (0 : Int32)) hin12 (g := (mkF m 31 #[vr a1, vi 0, vr a2, vi 0, vi 2, vi 0, vi p4] [(.int (p4.toInt8.toInt32)), (.int 0), (.ref a2)])) rfl rfl (hb hby d5_31)
  have K13 := (Keep.refl h0 [a2]).wr W13 (Or.inl (List.mem_of_getElem? (i := 0) rfl))
  have N13 := Fr.snoc X13 N0 g_a2
  have Vw13 : Arv Z h13 a2 k9 .byte (2 : Int32) [(.int (nar .byte (p4.toInt8.toInt32)))] (.int 0) := Arv.set Ar12 q12 S12 M12 Hs12 G12 (fits_nar_byte _) W13 0 rfl (Nat.le_of_ble_eq_true rfl)
  have f15 := (V_6.other W13 ne_a1_a2)
  obtain ⟨cl16, Ar16, q16, S16, M16, Hs16, G16⟩ := id f15
  have hin16 : ¬ ((1 : Int32) < 0 ∨ cl16.slots.size ≤ ((1 : Int32)).toNatClampNeg) := inb_of S16 ⟨by decide, by decide⟩
  have hat16 : cl16.slots[((1 : Int32)).toNatClampNeg]? = some (.int p5) := Has.at Hs16 hin16 rfl
  have V18 : Arv Z h13 a2 k9 .byte (2 : Int32) [(.int (nar .byte (p4.toInt8.toInt32))), (.int 0)] (.int 0) := Vw13.pad (pad_rep [(.int (nar .byte (p4.toInt8.toInt32)))] (.int 0) 1)
  obtain ⟨cl19, Ar19, q19, S19, M19, Hs19, G19⟩ := id V18
  have hin19 : ¬ ((1 : Int32) < 0 ∨ cl19.slots.size ≤ ((1 : Int32)).toNatClampNeg) := inb_of S19 ⟨by decide, by decide⟩
  obtain ⟨T20, h20, X20, e20, W20, st20⟩ := stB X13 hx hZ e13 Ar19 (j := (1 : Int32)) hin19 (g := (mkF m 31 #[vr a1, vi 1, vr a2, vi 1, vi 2, vi 1, vi p5] [(.int (p5.toInt8.toInt32)), (.int 1), (.ref a2)])) rfl rfl (hb hby d5_31)
  have K20 := K13.wr W20 (Or.inl (List.mem_of_getElem? (i := 0) rfl))
  have N20 := Fr.snoc X20 N13 g_a2
  have Vw20 : Arv Z h20 a2 k9 .byte (2 : Int32) [(.int (nar .byte (p4.toInt8.toInt32))), (.int (nar .byte (p5.toInt8.toInt32)))] (.int 0) := Arv.set Ar19 q19 S19 M19 Hs19 G19 (fits_nar_byte _) W20 1 rfl (Nat.le_of_ble_eq_true rfl)
  have f21 := ((E_14.wr W13).wr W20)
  obtain ⟨fs, hr, hrun, hended, hW, hsame⟩ := X20.leave (v := some (.int 2)) (fun h => by rw [Bd.returns] at h; cases h)
  refine ⟨_, _, pre0 _ ?_, hrun, hended, _, _, rfl, ?_, ⟨_, rfl⟩, hW, hsame.mono (by decide) (by decide)⟩
  · show Steps p.tables e below (s₁.setTop (mkF m 0 #[vr a1, vi 0, vr a2, vi 0, vi 2, .unset, .unset] [])) _
    refine XS.iconst X0.here hx rfl (hb hby d5_0) ?_
    refine XS.istore X0.here hx rfl (hb hby d5_1) rfl (l' := #[vr a1, vi 0, vr a2, vi 0, vi 2, vi 0, .unset]) rfl ?_
    refine XS.iload X0.here hx rfl (hb hby d5_3) rfl ?_
    refine XS.iload X0.here hx rfl (hb hby d5_5) rfl ?_
    refine XS.icmpNo X0.here hx rfl (hb hby d5_7) rfl (tlt ((by decide) : (0 : Int32) < (2 : Int32))).2.1 ?_
    refine XS.aloadN X0.here hx rfl (hb hby d5_10) rfl rfl ?_
    refine XS.iloadN X0.here hx rfl (hb hby d5_11) rfl ?_
    refine X0.caload hx (j := (0 : Int32)) (v := (.int p4)) (by rw [e0]; exact Ar7.1) (State.isArrayOf_alike hZ.alike Ar7.2.1) Ar7.2.2 hin7 hat7 (g := (mkF m 12 #[vr a1, vi 0, vr a2, vi 0, vi 2, vi 0, .unset] [(.int 0), (.ref a1)])) rfl rfl (hb hby d5_12) _ ?_
    refine XS.istore X0.here hx rfl (hb hby d5_13) rfl (l' := #[vr a1, vi 0, vr a2, vi 0, vi 2, vi 0, vi p4]) rfl ?_
    refine XS.iload X0.here hx rfl (hb hby d5_15) rfl ?_
    show Steps p.tables e below (s₁.setTop (mkF m 17 #[vr a1, vi 0, vr a2, vi 0, vi 2, vi 0, vi p4] [(.int p4)])) _
    refine XS.sipush X0.here hx rfl (hb hby d5_17) ?_
    refine XS.icmpYes X0.here hx rfl (pc0 := 20) (pc' := 26) rfl (hb hby d5_20) rfl (flt (hc8 : ¬ ((255 : Int32) < p4))).2.2.2 (by decide) (by decide) ?_
    refine XS.aloadN X0.here hx rfl (hb hby d5_26) rfl rfl ?_
    refine XS.iloadN X0.here hx rfl (hb hby d5_27) rfl ?_
    refine XS.iload X0.here hx rfl (hb hby d5_28) rfl ?_
    refine XS.i2b X0.here hx rfl (hb hby d5_30) rfl ?_
    refine st13 _ ?_
    refine XS.iinc X13.here hx rfl (hb hby d5_32) rfl (l' := #[vr a1, vi 1, vr a2, vi 0, vi 2, vi 0, vi p4]) rfl ?_
    refine XS.iinc X13.here hx rfl (hb hby d5_35) rfl (l' := #[vr a1, vi 1, vr a2, vi 1, vi 2, vi 0, vi p4]) rfl ?_
    refine XS.iinc X13.here hx rfl (hb hby d5_38) rfl (l' := #[vr a1, vi 1, vr a2, vi 1, vi 2, vi 1, vi p4]) rfl ?_
    show Steps p.tables e below (T13.setTop (mkF m 41 #[vr a1, vi 1, vr a2, vi 1, vi 2, vi 1, vi p4] [])) _
    refine XS.goto X13.here hx rfl (pc0 := 41) (pc' := 3) rfl (hb hby d5_41) (by decide) (by decide) ?_
    refine XS.iload X13.here hx rfl (hb hby d5_3) rfl ?_
    refine XS.iload X13.here hx rfl (hb hby d5_5) rfl ?_
    refine XS.icmpNo X13.here hx rfl (hb hby d5_7) rfl (tlt ((by decide) : (1 : Int32) < (2 : Int32))).2.1 ?_
    refine XS.aloadN X13.here hx rfl (hb hby d5_10) rfl rfl ?_
    refine XS.iloadN X13.here hx rfl (hb hby d5_11) rfl ?_
    refine X13.caload hx (j := (1 : Int32)) (v := (.int p5)) (by rw [e13]; exact Ar16.1) (State.isArrayOf_alike hZ.alike Ar16.2.1) Ar16.2.2 hin16 hat16 (g := (mkF m 12 #[vr a1, vi 1, vr a2, vi 1, vi 2, vi 1, vi p4] [(.int 1), (.ref a1)])) rfl rfl (hb hby d5_12) _ ?_
    refine XS.istore X13.here hx rfl (hb hby d5_13) rfl (l' := #[vr a1, vi 1, vr a2, vi 1, vi 2, vi 1, vi p5]) rfl ?_
    refine XS.iload X13.here hx rfl (hb hby d5_15) rfl ?_
    refine XS.sipush X13.here hx rfl (hb hby d5_17) ?_
    show Steps p.tables e below (T13.setTop (mkF m 20 #[vr a1, vi 1, vr a2, vi 1, vi 2, vi 1, vi p5] [(.int 255), (.int p5)])) _
    refine XS.icmpYes X13.here hx rfl (pc0 := 20) (pc' := 26) rfl (hb hby d5_20) rfl (flt (hc17 : ¬ ((255 : Int32) < p5))).2.2.2 (by decide) (by decide) ?_
    refine XS.aloadN X13.here hx rfl (hb hby d5_26) rfl rfl ?_
    refine XS.iloadN X13.here hx rfl (hb hby d5_27) rfl ?_
    refine XS.iload X13.here hx rfl (hb hby d5_28) rfl ?_
    refine XS.i2b X13.here hx rfl (hb hby d5_30) rfl ?_
    refine st20 _ ?_
    refine XS.iinc X20.here hx rfl (hb hby d5_32) rfl (l' := #[vr a1, vi 2, vr a2, vi 1, vi 2, vi 1, vi p5]) rfl ?_
    refine XS.iinc X20.here hx rfl (hb hby d5_35) rfl (l' := #[vr a1, vi 2, vr a2, vi 2, vi 2, vi 1, vi p5]) rfl ?_
    refine XS.iinc X20.here hx rfl (hb hby d5_38) rfl (l' := #[vr a1, vi 2, vr a2, vi 2, vi 2, vi 2, vi p5]) rfl ?_
    refine XS.goto X20.here hx rfl (pc0 := 41) (pc' := 3) rfl (hb hby d5_41) (by decide) (by decide) ?_
    show Steps p.tables e below (T20.setTop (mkF m 3 #[vr a1, vi 2, vr a2, vi 2, vi 2, vi 2, vi p5] [])) _
    refine XS.iload X20.here hx rfl (hb hby d5_3) rfl ?_
    refine XS.iload X20.here hx rfl (hb hby d5_5) rfl ?_
    refine XS.icmpYes X20.here hx rfl (pc0 := 7) (pc' := 44) rfl (hb hby d5_7) rfl (flt ((by decide) : ¬ ((2 : Int32) < (2 : Int32)))).2.1 (by decide) (by decide) ?_
    refine XS.iload X20.here hx rfl (hb hby d5_44) rfl ?_
    exact retI X20 hx Bd.returns (hb hby d5_46) hr
  · show Qrm5 Z a1 a2 k3 p4 p5 k9 h0 n0 _ T20.heap _
    rw [e20]
    exact ⟨rfl, N20, K20, Vw20, f21⟩
theorem pd_1 : parseMethodDescriptor "([CI[BII)I" = some ⟨[(.array .char), .int, (.array .byte), .int, .int], some .int⟩ := by decide +kernel
theorem d4_12 : decode jdk_52_method_16_code 12 = .ok (.istore 4, 2) := by decide +kernel
theorem d4_14 : decode jdk_52_method_16_code 14 = .ok (.iload 4, 2) := by decide +kernel
theorem d4_16 : decode jdk_52_method_16_code 16 = .ok (.iload_n 2, 1) := by decide +kernel
theorem d4_17 : decode jdk_52_method_16_code 17 = .ok (.if_icmp .eq 40, 3) := by decide +kernel
theorem d4_57 : decode jdk_52_method_16_code 57 = .ok (.aload_n 3, 1) := by decide +kernel
theorem d4_58 : decode jdk_52_method_16_code 58 = .ok (.areturn, 1) := by decide +kernel
theorem ef_4_RII (m : MethodId) (x0 : Addr) (x1 : Int32) (x2 : Int32) : entryFrame m #[(.ref x0), (.int x1), (.int x2)] 6 = mkF m 0 #[vr x0, vi x1, vi x2, .unset, .unset, .unset] [] := by first | (simp [entryFrame, mkF, argsToLocals, Value.category]; done) | rfl
def Qrm4 (Z : State) (a1 : Addr) (k3 : ClassId) (p4 : Int32) (p5 : Int32) (h0 : Heap) (n0 : Nat) (v : Option Value) (h : Heap) (L : List Loc) : Prop := ∃ b2 : Addr, ∃ k2 : ClassId, v = some (.ref b2) ∧ Fr n0 L ∧ Keep h0 h [] ∧ h0.size ≤ b2 ∧ Exa Z h b2 "[B" ∧ Arv Z h b2 k2 .byte (2 : Int32) [(.int (nar .byte (p4.toInt8.toInt32))), (.int (nar .byte (p5.toInt8.toInt32)))] (.int 0)
set_option maxRecDepth 65536 in
set_option maxHeartbeats 40000000 in
theorem rm4 (l : Launch) (Z : State) (a0 : Array Value) (hw : ∀ d ∈ tables_1, d.before a0 Z = true) (ws : List Jvm.Cond) (a1 : Addr) (k3 : ClassId) (p4 : Int32) (p5 : Int32) (h0 : Heap) (n0 : Nat) (O0 : Old Z n0 h0) (V_6 : Arv Z h0 a1 k3 .char (2 : Int32) [(.int p4), (.int p5)] (.int 0)) (hc7 : ¬ ((255 : Int32) < p4)) (hc8 : ¬ ((255 : Int32) < p5)) :
    MF l Z h0 (⟨"java/lang/StringUTF16", "compress", "([CII)[B"⟩ : MethodName) jdk_52_method_16_code 6 (some (.array .byte)) ws (⟨1, 1, 2, 18⟩ : Room) #[(.ref a1), (.int 0), (.int 2)] (Qrm4 Z a1 k3 p4 p5 h0 n0) := by
  refine MetFree.of_bodySF (plainFor_of_name pn_0) hisR ?_
  intro p e s m args below meth c s₁ Bd hml0 hP hK
  obtain ⟨rfl, hZ, hh⟩ := hP
  have hx := Bd.exec
  have hby := Bd.bytes
  have hml : c.maxLocals = 6 := hml0
  have hown : s.vm.findClass "java/lang/StringUTF16" = some m.cls := findClass_of_methodNamed Bd.named
  have X0 : Stand p l e (⟨1, 1, 2, 18⟩ : Room) s m #[(.ref a1), (.int 0), (.int 2)] below meth c s₁ [] 0 0 := Stand.of_body Bd
  have e0 : s₁.heap = h0 := by rw [← hh, Bd.state]; rfl
  have N0 := Fr.nil n0
  have pre0 : ∀ t, Steps p.tables e below (s₁.setTop (mkF m 0 #[vr a1, vi 0, vi 2, .unset, .unset, .unset] [])) t → Steps p.tables e below (s₁.setTop (entryFrame m #[(.ref a1), (.int 0), (.int 2)] 6)) t := fun t k => castTop (ef_4_RII m a1 (0 : Int32) (2 : Int32)) k
  obtain ⟨T2, h2, k2, X2, e2, E2, A2, B2, st2⟩ := newPE X0 hx hZ (W hw 19 rfl) e0 (g := (mkF m 1 #[vr a1, vi 0, vi 2, .unset, .unset, .unset] [(.int 2)])) rfl (hb hby d4_1) rfl (by decide) (cap := 2) (by decide) (by decide) (by decide) (by decide) (ad := "[B") (by decide)
  obtain ⟨b2, g2⟩ : ∃ z, z = h0.size := ⟨_, rfl⟩
  rw [← g2] at A2 B2 st2
  have g_b2 := own_born O0 (own_eqle g2)
  have sz_b2 := Nat.le_trans (Keep.refl h0 []).1 (own_eqle g2)
  have K2 := (Keep.refl h0 []).ext E2
  have O2 := O0.ext E2
  have V2 : Arv Z h2 b2 k2 .byte (2 : Int32) [] (.int 0) := Arv.new A2 (by decide)
  have f9 := (V_6.ext E2)
  obtain ⟨_, T10, L10, X10, hQ10, st10⟩ := cS X2 hx hZ hown (W hw 20 rfl) (W hw 21 rfl) (W hw 17 rfl) (W hw 22 rfl) (by decide) (rm5 l Z a0 hw [] a1 b2 k3 p4 p5 k2 h2 n0 O2 f9 hc7 V2 g_b2 B2 (own_ltn V_6.lt sz_b2) hc8) e2 #[vr a1, vi 0, vi 2, vr b2, .unset, .unset] [] (by rw [hml]; rfl) (hb hby d4_9) pd_1 rfl (W := 0) (Nat.le_of_eq rfl) (by decide) (by decide) (by decide) (by decide)
  obtain ⟨rfl, Nq10, K10, P10_0, P10_1⟩ := hQ10
  have N10 := Fr.app N0 Nq10
  have KK10 := Keep.trans (h := h2) K2 K10 (allS (Or.inr sz_b2) all0)
  obtain ⟨fs, hr, hrun, hended, hW, hsame⟩ := X10.leave (v := some (.ref b2)) (fun h => by rw [Bd.returns] at h; cases h)
  refine ⟨_, _, pre0 _ ?_, hrun, hended, _, _, rfl, ?_, ⟨_, rfl⟩, hW, hsame.mono (by decide) (by decide)⟩
  · show Steps p.tables e below (s₁.setTop (mkF m 0 #[vr a1, vi 0, vi 2, .unset, .unset, .unset] [])) _
    refine XS.iloadN X0.here hx rfl (hb hby d4_0) rfl ?_
    refine st2 _ ?_
    refine XS.astoreN X2.here hx rfl (hb hby d4_3) rfl rfl (l' := #[vr a1, vi 0, vi 2, vr b2, .unset, .unset]) rfl ?_
    refine XS.aloadN X2.here hx rfl (hb hby d4_4) rfl rfl ?_
    refine XS.iloadN X2.here hx rfl (hb hby d4_5) rfl ?_
    refine XS.aloadN X2.here hx rfl (hb hby d4_6) rfl rfl ?_
    refine XS.iconst X2.here hx rfl (hb hby d4_7) ?_
    refine XS.iloadN X2.here hx rfl (hb hby d4_8) rfl ?_
    refine st10 _ ?_
    refine XS.istore X10.here hx rfl (hb hby d4_12) rfl (l' := #[vr a1, vi 0, vi 2, vr b2, vi 2, .unset]) rfl ?_
    show Steps p.tables e below (T10.setTop (mkF m 14 #[vr a1, vi 0, vi 2, vr b2, vi 2, .unset] [])) _
    refine XS.iload X10.here hx rfl (hb hby d4_14) rfl ?_
    refine XS.iloadN X10.here hx rfl (hb hby d4_16) rfl ?_
    refine XS.icmpYes X10.here hx rfl (pc0 := 17) (pc' := 57) rfl (hb hby d4_17) rfl (teq ((by decide) : (2 : Int32) = (2 : Int32))).1 (by decide) (by decide) ?_
    refine XS.aloadN X10.here hx rfl (hb hby d4_57) rfl rfl ?_
    jvm_step X10.here [X10.here.top, hx, (hb hby d4_58), X10.method', Bd.returns, Value.isRef, FieldType.isReference]
    first | (intro acts; rw [hr _ acts rfl rfl rfl]) | rw [hr _ _ rfl rfl rfl]
    exact Steps.refl _
  · show Qrm4 Z a1 k3 p4 p5 h0 n0 _ T10.heap _
    exact ⟨b2, k2, rfl, N10, KK10, sz_b2, P10_1, P10_0⟩
theorem pd_2 : parseMethodDescriptor "([CII)[B" = some ⟨[(.array .char), .int, .int], some (.array .byte)⟩ := by decide +kernel
theorem d2_39 : decode jdk_42_method_149_code 39 = .ok (.astore 5, 2) := by decide +kernel
theorem d2_41 : decode jdk_42_method_149_code 41 = .ok (.aload_n 0, 1) := by decide +kernel
theorem d2_42 : decode jdk_42_method_149_code 42 = .ok (.aload 5, 2) := by decide +kernel
theorem d2_44 : decode jdk_42_method_149_code 44 = .ok (.iload_n 3, 1) := by decide +kernel
theorem d2_45 : decode jdk_42_method_149_code 45 = .ok (.invokestatic 47, 3) := by decide +kernel
theorem d6_0 : decode jdk_52_method_15_code 0 = .ok (.iload_n 1, 1) := by decide +kernel
theorem d6_1 : decode jdk_52_method_15_code 1 = .ok (.aload_n 0, 1) := by decide +kernel
theorem d6_2 : decode jdk_52_method_15_code 2 = .ok (.arraylength, 1) := by decide +kernel
theorem d6_3 : decode jdk_52_method_15_code 3 = .ok (.isub, 1) := by decide +kernel
theorem d6_4 : decode jdk_52_method_15_code 4 = .ok (.bipush 31, 2) := by decide +kernel
theorem d6_6 : decode jdk_52_method_15_code 6 = .ok (.iushr, 1) := by decide +kernel
theorem d6_7 : decode jdk_52_method_15_code 7 = .ok (.i2b, 1) := by decide +kernel
theorem d6_8 : decode jdk_52_method_15_code 8 = .ok (.ireturn, 1) := by decide +kernel
theorem ef_6_RI (m : MethodId) (x0 : Addr) (x1 : Int32) : entryFrame m #[(.ref x0), (.int x1)] 2 = mkF m 0 #[vr x0, vi x1] [] := by first | (simp [entryFrame, mkF, argsToLocals, Value.category]; done) | rfl
def Qrm6 (Z : State) (a1 : Addr) (k2 : ClassId) (p3 : Int32) (p4 : Int32) (h0 : Heap) (n0 : Nat) (v : Option Value) (h : Heap) (L : List Loc) : Prop := v = some (.int 0) ∧ Fr n0 L ∧ h = h0
set_option maxRecDepth 65536 in
set_option maxHeartbeats 40000000 in
theorem rm6 (l : Launch) (Z : State) (a0 : Array Value) (hw : ∀ d ∈ tables_1, d.before a0 Z = true) (ws : List Jvm.Cond) (a1 : Addr) (k2 : ClassId) (p3 : Int32) (p4 : Int32) (h0 : Heap) (n0 : Nat) (O0 : Old Z n0 h0) (V_5 : Arv Z h0 a1 k2 .byte (2 : Int32) [(.int p3), (.int p4)] (.int 0)) :
    MF l Z h0 (⟨"java/lang/StringUTF16", "coderFromArrayLen", "([BI)B"⟩ : MethodName) jdk_52_method_15_code 2 (some .byte) ws (⟨0, 0, 0, 0⟩ : Room) #[(.ref a1), (.int 2)] (Qrm6 Z a1 k2 p3 p4 h0 n0) := by
  refine MetFree.of_bodySF (plainFor_of_name pn_0) hisR ?_
  intro p e s m args below meth c s₁ Bd hml0 hP hK
  obtain ⟨rfl, hZ, hh⟩ := hP
  have hx := Bd.exec
  have hby := Bd.bytes
  have X0 : Stand p l e (⟨0, 0, 0, 0⟩ : Room) s m #[(.ref a1), (.int 2)] below meth c s₁ [] 0 0 := Stand.of_body Bd
  have e0 : s₁.heap = h0 := by rw [← hh, Bd.state]; rfl
  have N0 := Fr.nil n0
  have pre0 : ∀ t, Steps p.tables e below (s₁.setTop (mkF m 0 #[vr a1, vi 2] [])) t → Steps p.tables e below (s₁.setTop (entryFrame m #[(.ref a1), (.int 2)] 2)) t := fun t k => castTop (ef_6_RI m a1 (2 : Int32)) k
  obtain ⟨cl6, Ar6, q6, S6, M6, Hs6, G6⟩ := id V_5
  obtain ⟨fs, hr, hrun, hended, hW, hsame⟩ := X0.leave (v := some (.int 0)) (fun h => by rw [Bd.returns] at h; cases h)
  refine ⟨_, _, pre0 _ ?_, hrun, hended, _, _, rfl, ?_, ⟨_, rfl⟩, hW, hsame.mono (by decide) (by decide)⟩
  · show Steps p.tables e below (s₁.setTop (mkF m 0 #[vr a1, vi 2] [])) _
    refine XS.iloadN X0.here hx rfl (hb hby d6_0) rfl ?_
    refine XS.aloadN X0.here hx rfl (hb hby d6_1) rfl rfl ?_
    refine X0.arraylength hx (by rw [e0]; exact Ar6.1) (State.isArrayOf_alike hZ.alike Ar6.2.1) (g := (mkF m 2 #[vr a1, vi 2] [(.ref a1), (.int 2)])) rfl rfl (hb hby d6_2) _ ?_
    rw [len_of S6 M6]
    refine XS.isub X0.here hx rfl (hb hby d6_3) rfl ?_
    show Steps p.tables e below (s₁.setTop (mkF m 4 #[vr a1, vi 2] [(.int ((2 : Int32) - (2 : Int32)))])) _
    rw [show ((2 : Int32) - (2 : Int32)) = (0 : Int32) from by decide]
    refine XS.bipush X0.here hx rfl (hb hby d6_4) ?_
    refine XS.iushr X0.here hx rfl (hb hby d6_6) rfl ?_
    show Steps p.tables e below (s₁.setTop (mkF m 7 #[vr a1, vi 2] [(.int (((0 : Int32).toUInt32 >>> ((31 : Int32) &&& 31).toUInt32).toInt32))])) _
    rw [show (((0 : Int32).toUInt32 >>> ((31 : Int32) &&& 31).toUInt32).toInt32) = (0 : Int32) from by decide]
    refine XS.i2b X0.here hx rfl (hb hby d6_7) rfl ?_
    show Steps p.tables e below (s₁.setTop (mkF m 8 #[vr a1, vi 2] [(.int ((0 : Int32).toInt8.toInt32))])) _
    rw [show ((0 : Int32).toInt8.toInt32) = (0 : Int32) from by decide]
    exact retN X0 hx (t := .byte) Bd.returns (by simp) (hb hby d6_8) hr
  · show Qrm6 Z a1 k2 p3 p4 h0 n0 _ s₁.heap _
    rw [e0]
    exact ⟨rfl, N0, rfl⟩
theorem pd_3 : parseMethodDescriptor "([BI)B" = some ⟨[(.array .byte), .int], some .byte⟩ := by decide +kernel
theorem d2_48 : decode jdk_42_method_149_code 48 = .ok (.putfield 15, 3) := by decide +kernel
theorem d2_51 : decode jdk_42_method_149_code 51 = .ok (.aload_n 0, 1) := by decide +kernel
theorem d2_52 : decode jdk_42_method_149_code 52 = .ok (.aload 5, 2) := by decide +kernel
theorem d2_54 : decode jdk_42_method_149_code 54 = .ok (.putfield 9, 3) := by decide +kernel
theorem d2_57 : decode jdk_42_method_149_code 57 = .ok (.return_, 1) := by decide +kernel
theorem ef_2_RRIIn (m : MethodId) (x0 : Addr) (x1 : Addr) (x2 : Int32) (x3 : Int32) : entryFrame m #[(.ref x0), (.ref x1), (.int x2), (.int x3), .null] 6 = mkF m 0 #[vr x0, vr x1, vi x2, vi x3, .val .null, .unset] [] := by first | (simp [entryFrame, mkF, argsToLocals, Value.category]; done) | rfl
theorem pn_4 : plainName "java/lang/String" = true := by first | (simp [plainName, overriddenIn]; done) | decide +kernel
def Qrm2 (Z : State) (a1 : Addr) (a2 : Addr) (p4 : Int32) (k8 : ClassId) (p9 : Int32) (p10 : Int32) (h0 : Heap) (n0 : Nat) (v : Option Value) (h : Heap) (L : List Loc) : Prop := ∃ b15 : Addr, ∃ k16 : ClassId, v = none ∧ Fr n0 L ∧ Keep h0 h [a1] ∧ h0.size ≤ b15 ∧ Exa Z h a1 "java/lang/String" ∧ Fld Z h a1 "java/lang/String" "coder" "B" (.int 0) ∧ Fld Z h a1 "java/lang/String" "value" "[B" (.ref b15) ∧ Exa Z h b15 "[B" ∧ Arv Z h b15 k16 .byte (2 : Int32) [(.int (nar .byte (p9.toInt8.toInt32))), (.int (nar .byte (p10.toInt8.toInt32)))] (.int 0)
set_option maxRecDepth 65536 in
set_option maxHeartbeats 40000000 in
theorem rm2 (l : Launch) (Z : State) (a0 : Array Value) (hw : ∀ d ∈ tables_1, d.before a0 Z = true) (ws : List Jvm.Cond) (a1 : Addr) (a2 : Addr) (p4 : Int32) (k8 : ClassId) (p9 : Int32) (p10 : Int32) (h0 : Heap) (n0 : Nat) (O0 : Old Z n0 h0) (S_5 : Sta Z Z.heap "java/lang/String" "COMPACT_STRINGS" "Z" (.int p4)) (hc7 : ¬ (p4 = (0 : Int32))) (V_11 : Arv Z h0 a2 k8 .char (2 : Int32) [(.int p9), (.int p10)] (.int 0)) (hc12 : ¬ ((255 : Int32) < p9)) (hc13 : ¬ ((255 : Int32) < p10)) (E_19 : Exa Z h0 a1 "java/lang/String") (F_20 : Fld Z h0 a1 "java/lang/String" "coder" "B" (.int 0)) (g_a1 : n0 ≤ a1) (F_24 : Fld Z h0 a1 "java/lang/String" "value" "[B" .null) :
    MF l Z h0 (⟨"java/lang/String", "<init>", "([CIILjava/lang/Void;)V"⟩ : MethodName) jdk_42_method_149_code 6 none ws (⟨2, 1, 2, 35⟩ : Room) #[(.ref a1), (.ref a2), (.int 0), (.int 2), .null] (Qrm2 Z a1 a2 p4 k8 p9 p10 h0 n0) := by
  refine MetFree.of_bodySF (plainFor_of_name pn_4) hisR ?_
  intro p e s m args below meth c s₁ Bd hml0 hP hK
  obtain ⟨rfl, hZ, hh⟩ := hP
  have hx := Bd.exec
  have hby := Bd.bytes
  have hml : c.maxLocals = 6 := hml0
  have hown : s.vm.findClass "java/lang/String" = some m.cls := findClass_of_methodNamed Bd.named
  have hnm := (name_of_methodNamed Bd.named Bd.method).1
  have X0 : Stand p l e (⟨2, 1, 2, 35⟩ : Room) s m #[(.ref a1), (.ref a2), (.int 0), (.int 2), .null] below meth c s₁ [] 0 0 := Stand.of_body Bd
  have e0 : s₁.heap = h0 := by rw [← hh, Bd.state]; rfl
  have N0 := Fr.nil n0
  have pre0 : ∀ t, Steps p.tables e below (s₁.setTop (mkF m 0 #[vr a1, vr a2, vi 0, vi 2, .val .null, .unset] [])) t → Steps p.tables e below (s₁.setTop (entryFrame m #[(.ref a1), (.ref a2), (.int 0), (.int 2), .null] 6)) t := fun t k => castTop (ef_2_RRIIn m a1 a2 (0 : Int32) (2 : Int32)) k
  obtain ⟨T3, X3, e3, st3⟩ := initO X0 hx hZ hown (W hw 11 rfl) (W hw 12 rfl) (W hw 13 rfl) e0 (g := (mkF m 1 #[vr a1, vr a2, vi 0, vi 2, .val .null, .unset] [(.ref a1)])) rfl (by rw [hml]; rfl) rfl (hb hby d2_1) (by decide) (W := 0) (by show 2 * 0 + _ ≤ _; exact Nat.le_of_eq rfl) (by decide)
  obtain ⟨T6, X6, e6, st6⟩ := getS2 X3 hx hZ hown (host := "") (Or.inl (W hw 14 rfl)) Via.refl e3 (S_5.ext O0.2) (g := (mkF m 27 #[vr a1, vr a2, vi 0, vi 2, .val .null, .unset] [])) rfl (hb hby d2_27)
  obtain ⟨_, T14, L14, X14, hQ14, st14⟩ := cS X6 hx hZ hown (W hw 15 rfl) (W hw 16 rfl) (W hw 17 rfl) (W hw 18 rfl) (by decide) (rm4 l Z a0 hw [] a2 k8 p9 p10 h0 n0 O0 V_11 hc12 hc13) e6 #[vr a1, vr a2, vi 0, vi 2, .val .null, .unset] [] (by rw [hml]; rfl) (hb hby d2_36) pd_2 rfl (W := 0) (Nat.le_of_eq rfl) (by decide) (by decide) (by decide) (by decide)
  obtain ⟨b15, k16, rfl, Nq14, K14, sq14_b15, P14_0, P14_1⟩ := hQ14
  have N14 := Fr.app N0 Nq14
  have sz_b15 := Nat.le_trans (Keep.refl h0 [a1]).1 sq14_b15
  have KK14 := Keep.trans (h := h0) (Keep.refl h0 [a1]) K14 all0
  have O14 := O0.keep K14 all0
  obtain ⟨_, T18, L18, X18, hQ18, st18⟩ := cS X14 hx hZ hown (W hw 23 rfl) (W hw 24 rfl) (W hw 17 rfl) (W hw 25 rfl) (by decide) (rm6 l Z a0 hw [] b15 k16 (nar .byte (p9.toInt8.toInt32)) (nar .byte (p10.toInt8.toInt32)) T14.heap n0 O14 P14_1) rfl #[vr a1, vr a2, vi 0, vi 2, .val .null, vr b15] [(.ref a1)] (by rw [hml]; rfl) (hb hby d2_45) pd_3 rfl (W := 1) (Nat.le_of_eq rfl) (by decide) (by decide) (by decide) (by decide)
  obtain ⟨rfl, Nq18, e18⟩ := hQ18
  have N18 := Fr.app N14 Nq18
  have f21 := (F_20.keep K14 nin0)
  have f22 := (E_19.keep K14)
  obtain ⟨T23, h23, X23, e23, W23, st23⟩ := putFN X18 hx hZ hown (W hw 26 rfl) Via.refl e18 f21 f22 (Or.inr ⟨(W hw 27 rfl), rfl, hnm⟩) (W hw 1 rfl) (ty := .byte) (v' := (.int 0)) (by decide) rfl rfl (g := (mkF m 48 #[vr a1, vr a2, vi 0, vi 2, .val .null, vr b15] [(.int 0), (.ref a1)])) rfl rfl (hb hby d2_48)
  have K23 := KK14.wr W23 (Or.inl (List.mem_of_getElem? (i := 0) rfl))
  have N23 := Fr.snoc X23 N18 g_a1
  have Fw23 := f21.same W23
  have f25 := ((F_24.keep K14 nin0).other W23 (Or.inr (slot_ne (Or.inr (W hw 29 rfl)) (Or.inr (W hw 27 rfl)) (by decide) (t := (.array .byte)) (t' := .byte) (by decide) (by decide))))
  have f26 := (f22.wr W23)
  obtain ⟨T27, h27, X27, e27, W27, st27⟩ := putF X23 hx hZ hown (host := "") (Or.inl (W hw 28 rfl)) Via.refl e23 f25 f26 (Or.inr ⟨(W hw 29 rfl), rfl, hnm⟩) (W hw 1 rfl) (ty := (.array .byte)) (by decide) rfl rfl (g := (mkF m 54 #[vr a1, vr a2, vi 0, vi 2, .val .null, vr b15] [(.ref b15), (.ref a1)])) rfl rfl (hb hby d2_54)
  have K27 := K23.wr W27 (Or.inl (List.mem_of_getElem? (i := 0) rfl))
  have N27 := Fr.snoc X27 N23 g_a1
  have Fw27 := f25.same W27
  have f28 := (f26.wr W27)
  have f29 := (Fw23.other W27 (Or.inr (slot_ne (Or.inr (W hw 27 rfl)) (Or.inr (W hw 29 rfl)) (by decide) (t := .byte) (t' := (.array .byte)) (by decide) (by decide))))
  have f30 := ((P14_0.wr W23).wr W27)
  have f31 := ((P14_1.other W23 (Ne.symm (own_ltn E_19.lt sz_b15))).other W27 (Ne.symm (own_ltn E_19.lt sz_b15)))
  obtain ⟨fs, hr, hrun, hended, hW, hsame⟩ := X27.leave (v := none) (fun _ => rfl)
  refine ⟨_, _, pre0 _ ?_, hrun, hended, _, _, rfl, ?_, ⟨_, rfl⟩, hW, hsame.mono (by decide) (by decide)⟩
  · show Steps p.tables e below (s₁.setTop (mkF m 0 #[vr a1, vr a2, vi 0, vi 2, .val .null, .unset] [])) _
    refine XS.aloadN X0.here hx rfl (hb hby d2_0) rfl rfl ?_
    refine st3 _ ?_
    refine XS.iloadN X3.here hx rfl (hb hby d2_4) rfl ?_
    refine XS.ifYes X3.here hx rfl (pc0 := 5) (pc' := 27) rfl (hb hby d2_5) rfl ((if0 _ _).trans (feq ((by decide) : ¬ ((2 : Int32) = (0 : Int32)))).2) (by decide) (by decide) ?_
    refine st6 _ ?_
    refine XS.ifNo X6.here hx rfl (hb hby d2_30) rfl ((if0 _ _).trans (feq (hc7 : ¬ (p4 = (0 : Int32)))).1) ?_
    refine XS.aloadN X6.here hx rfl (hb hby d2_33) rfl rfl ?_
    refine XS.iloadN X6.here hx rfl (hb hby d2_34) rfl ?_
    refine XS.iloadN X6.here hx rfl (hb hby d2_35) rfl ?_
    refine st14 _ ?_
    show Steps p.tables e below (T14.setTop (mkF m 39 #[vr a1, vr a2, vi 0, vi 2, .val .null, .unset] [(.ref b15)])) _
    refine XS.astore X14.here hx rfl (hb hby d2_39) rfl rfl (l' := #[vr a1, vr a2, vi 0, vi 2, .val .null, vr b15]) rfl ?_
    refine XS.aloadN X14.here hx rfl (hb hby d2_41) rfl rfl ?_
    refine XS.aload X14.here hx rfl (hb hby d2_42) rfl rfl ?_
    refine XS.iloadN X14.here hx rfl (hb hby d2_44) rfl ?_
    refine st18 _ ?_
    refine st23 _ ?_
    refine XS.aloadN X23.here hx rfl (hb hby d2_51) rfl rfl ?_
    refine XS.aload X23.here hx rfl (hb hby d2_52) rfl rfl ?_
    refine st27 _ ?_
    exact X27.returnOut hx Bd.returns (hb hby d2_57) hr
  · show Qrm2 Z a1 a2 p4 k8 p9 p10 h0 n0 _ T27.heap _
    rw [e27]
    exact ⟨b15, k16, rfl, N27, K27, sz_b15, f28, f29, Fw27, f30, f31⟩
theorem pd_5 : parseMethodDescriptor "([CIILjava/lang/Void;)V" = some ⟨[(.array .char), .int, .int, (.object "java/lang/Void")], none⟩ := by decide +kernel
theorem d1_9 : decode jdk_42_method_3_code 9 = .ok (.return_, 1) := by decide +kernel
theorem ef_1_RR (m : MethodId) (x0 : Addr) (x1 : Addr) : entryFrame m #[(.ref x0), (.ref x1)] 2 = mkF m 0 #[vr x0, vr x1] [] := by first | (simp [entryFrame, mkF, argsToLocals, Value.category]; done) | rfl
def Qrm1 (Z : State) (a1 : Addr) (a2 : Addr) (k3 : ClassId) (p4 : Int32) (p5 : Int32) (p8 : Int32) (h0 : Heap) (n0 : Nat) (v : Option Value) (h : Heap) (L : List Loc) : Prop := ∃ b17 : Addr, ∃ k18 : ClassId, v = none ∧ Fr n0 L ∧ Keep h0 h [a1] ∧ h0.size ≤ b17 ∧ Exa Z h a1 "java/lang/String" ∧ Fld Z h a1 "java/lang/String" "coder" "B" (.int 0) ∧ Fld Z h a1 "java/lang/String" "value" "[B" (.ref b17) ∧ Exa Z h b17 "[B" ∧ Arv Z h b17 k18 .byte (2 : Int32) [(.int (nar .byte (p4.toInt8.toInt32))), (.int (nar .byte (p5.toInt8.toInt32)))] (.int 0)
set_option maxRecDepth 65536 in
set_option maxHeartbeats 40000000 in
theorem rm1 (l : Launch) (Z : State) (a0 : Array Value) (hw : ∀ d ∈ tables_1, d.before a0 Z = true) (ws : List Jvm.Cond) (a1 : Addr) (a2 : Addr) (k3 : ClassId) (p4 : Int32) (p5 : Int32) (p8 : Int32) (h0 : Heap) (n0 : Nat) (O0 : Old Z n0 h0) (V_6 : Arv Z h0 a2 k3 .char (2 : Int32) [(.int p4), (.int p5)] (.int 0)) (S_9 : Sta Z Z.heap "java/lang/String" "COMPACT_STRINGS" "Z" (.int p8)) (hc10 : ¬ (p8 = (0 : Int32))) (hc11 : ¬ ((255 : Int32) < p4)) (hc12 : ¬ ((255 : Int32) < p5)) (E_13 : Exa Z h0 a1 "java/lang/String") (F_14 : Fld Z h0 a1 "java/lang/String" "coder" "B" (.int 0)) (g_a1 : n0 ≤ a1) (F_15 : Fld Z h0 a1 "java/lang/String" "value" "[B" .null) :
    MF l Z h0 (⟨"java/lang/String", "<init>", "([C)V"⟩ : MethodName) jdk_42_method_3_code 2 none ws (⟨3, 1, 2, 52⟩ : Room) #[(.ref a1), (.ref a2)] (Qrm1 Z a1 a2 k3 p4 p5 p8 h0 n0) := by
  refine MetFree.of_bodySF (plainFor_of_name pn_4) hisR ?_
  intro p e s m args below meth c s₁ Bd hml0 hP hK
  obtain ⟨rfl, hZ, hh⟩ := hP
  have hx := Bd.exec
  have hby := Bd.bytes
  have hml : c.maxLocals = 2 := hml0
  have hown : s.vm.findClass "java/lang/String" = some m.cls := findClass_of_methodNamed Bd.named
  have X0 : Stand p l e (⟨3, 1, 2, 52⟩ : Room) s m #[(.ref a1), (.ref a2)] below meth c s₁ [] 0 0 := Stand.of_body Bd
  have e0 : s₁.heap = h0 := by rw [← hh, Bd.state]; rfl
  have N0 := Fr.nil n0
  have pre0 : ∀ t, Steps p.tables e below (s₁.setTop (mkF m 0 #[vr a1, vr a2] [])) t → Steps p.tables e below (s₁.setTop (entryFrame m #[(.ref a1), (.ref a2)] 2)) t := fun t k => castTop (ef_1_RR m a1 a2) k
  obtain ⟨cl7, Ar7, q7, S7, M7, Hs7, G7⟩ := id V_6
  obtain ⟨_, T16, L16, X16, hQ16, st16⟩ := cI X0 hx hZ hown (W hw 7 rfl) (W hw 8 rfl) (W hw 10 rfl) (W hw 2 rfl) rfl (by decide) (rm2 l Z a0 hw [] a1 a2 p8 k3 p4 p5 h0 n0 O0 S_9 hc10 V_6 hc11 hc12 E_13 F_14 g_a1 F_15) e0 #[vr a1, vr a2] [] (by rw [hml]; rfl) (hb hby d1_6) pd_5 rfl (W := 0) (Nat.le_of_eq rfl) (by decide) (by decide) (by decide) (by decide)
  obtain ⟨b17, k18, rfl, Nq16, K16, sq16_b17, P16_0, P16_1, P16_2, P16_3, P16_4⟩ := hQ16
  have N16 := Fr.app N0 Nq16
  have sz_b17 := Nat.le_trans (Keep.refl h0 [a1]).1 sq16_b17
  have KK16 := Keep.trans (h := h0) (Keep.refl h0 [a1]) K16 (allS (Or.inl (List.mem_of_getElem? (i := 0) rfl)) all0)
  obtain ⟨fs, hr, hrun, hended, hW, hsame⟩ := X16.leave (v := none) (fun _ => rfl)
  refine ⟨_, _, pre0 _ ?_, hrun, hended, _, _, rfl, ?_, ⟨_, rfl⟩, hW, hsame.mono (by decide) (by decide)⟩
  · show Steps p.tables e below (s₁.setTop (mkF m 0 #[vr a1, vr a2] [])) _
    refine XS.aloadN X0.here hx rfl (hb hby d1_0) rfl rfl ?_
    refine XS.aloadN X0.here hx rfl (hb hby d1_1) rfl rfl ?_
    refine XS.iconst X0.here hx rfl (hb hby d1_2) ?_
    refine XS.aloadN X0.here hx rfl (hb hby d1_3) rfl rfl ?_
    refine X0.arraylength hx (by rw [e0]; exact Ar7.1) (State.isArrayOf_alike hZ.alike Ar7.2.1) (g := (mkF m 4 #[vr a1, vr a2] [(.ref a2), (.int 0), (.ref a2), (.ref a1)])) rfl rfl (hb hby d1_4) _ ?_
    rw [len_of S7 M7]
    refine XS.aconstNull X0.here hx rfl (hb hby d1_5) ?_
    refine st16 _ ?_
    exact X16.returnOut hx Bd.returns (hb hby d1_9) hr
  · show Qrm1 Z a1 a2 k3 p4 p5 p8 h0 n0 _ T16.heap _
    exact ⟨b17, k18, rfl, N16, KK16, sz_b17, P16_0, P16_1, P16_2, P16_3, P16_4⟩
theorem pd_6 : parseMethodDescriptor "([C)V" = some ⟨[(.array .char)], none⟩ := by decide +kernel
theorem d7_0 : decode jdk_42_method_139_code 0 = .ok (.getstatic 38, 3) := by decide +kernel
theorem d7_3 : decode jdk_42_method_139_code 3 = .ok (.ifCond .eq 23, 3) := by decide +kernel
theorem d7_6 : decode jdk_42_method_139_code 6 = .ok (.iload_n 0, 1) := by decide +kernel
theorem d7_7 : decode jdk_42_method_139_code 7 = .ok (.invokestatic 1015, 3) := by decide +kernel
theorem d8_0 : decode jdk_43_method_3_code 0 = .ok (.iload_n 0, 1) := by decide +kernel
theorem d8_1 : decode jdk_43_method_3_code 1 = .ok (.sipush 255, 3) := by decide +kernel
theorem d8_4 : decode jdk_43_method_3_code 4 = .ok (.if_icmp .gt 7, 3) := by decide +kernel
theorem d8_7 : decode jdk_43_method_3_code 7 = .ok (.iconst 1, 1) := by decide +kernel
theorem d8_8 : decode jdk_43_method_3_code 8 = .ok (.goto 4, 3) := by decide +kernel
theorem d8_12 : decode jdk_43_method_3_code 12 = .ok (.ireturn, 1) := by decide +kernel
theorem ef_8_I (m : MethodId) (x0 : Int32) : entryFrame m #[(.int x0)] 1 = mkF m 0 #[vi x0] [] := by first | (simp [entryFrame, mkF, argsToLocals, Value.category]; done) | rfl
theorem pn_7 : plainName "java/lang/StringLatin1" = true := by first | (simp [plainName, overriddenIn]; done) | decide +kernel
def Qrm8 (Z : State) (p1 : Int32) (h0 : Heap) (n0 : Nat) (v : Option Value) (h : Heap) (L : List Loc) : Prop := v = some (.int 1) ∧ Fr n0 L ∧ h = h0
set_option maxRecDepth 65536 in
set_option maxHeartbeats 40000000 in
theorem rm8 (l : Launch) (Z : State) (a0 : Array Value) (hw : ∀ d ∈ tables_1, d.before a0 Z = true) (ws : List Jvm.Cond) (p1 : Int32) (h0 : Heap) (n0 : Nat) (O0 : Old Z n0 h0) (hc2 : ¬ ((255 : Int32) < p1)) :
    MF l Z h0 (⟨"java/lang/StringLatin1", "canEncode", "(C)Z"⟩ : MethodName) jdk_43_method_3_code 1 (some .boolean) ws (⟨0, 0, 0, 0⟩ : Room) #[(.int p1)] (Qrm8 Z p1 h0 n0) := by
  refine MetFree.of_bodySF (plainFor_of_name pn_7) hisR ?_
  intro p e s m args below meth c s₁ Bd hml0 hP hK
  obtain ⟨rfl, hZ, hh⟩ := hP
  have hx := Bd.exec
  have hby := Bd.bytes
  have X0 : Stand p l e (⟨0, 0, 0, 0⟩ : Room) s m #[(.int p1)] below meth c s₁ [] 0 0 := Stand.of_body Bd
  have e0 : s₁.heap = h0 := by rw [← hh, Bd.state]; rfl
  have N0 := Fr.nil n0
  have pre0 : ∀ t, Steps p.tables e below (s₁.setTop (mkF m 0 #[vi p1] [])) t → Steps p.tables e below (s₁.setTop (entryFrame m #[(.int p1)] 1)) t := fun t k => castTop (ef_8_I m p1) k
  obtain ⟨fs, hr, hrun, hended, hW, hsame⟩ := X0.leave (v := some (.int 1)) (fun h => by rw [Bd.returns] at h; cases h)
  refine ⟨_, _, pre0 _ ?_, hrun, hended, _, _, rfl, ?_, ⟨_, rfl⟩, hW, hsame.mono (by decide) (by decide)⟩
  · show Steps p.tables e below (s₁.setTop (mkF m 0 #[vi p1] [])) _
    refine XS.iloadN X0.here hx rfl (hb hby d8_0) rfl ?_
    refine XS.sipush X0.here hx rfl (hb hby d8_1) ?_
    refine XS.icmpNo X0.here hx rfl (hb hby d8_4) rfl (flt (hc2 : ¬ ((255 : Int32) < p1))).2.2.1 ?_
    refine XS.iconst X0.here hx rfl (hb hby d8_7) ?_
    refine XS.goto X0.here hx rfl (pc0 := 8) (pc' := 12) rfl (hb hby d8_8) (by decide) (by decide) ?_
    exact retN X0 hx (t := .boolean) Bd.returns (by simp) (hb hby d8_12) hr
  · show Qrm8 Z p1 h0 n0 _ s₁.heap _
    rw [e0]
    exact ⟨rfl, N0, rfl⟩
theorem pd_8 : parseMethodDescriptor "(C)Z" = some ⟨[.char], some .boolean⟩ := by decide +kernel
theorem d7_10 : decode jdk_42_method_139_code 10 = .ok (.ifCond .eq 16, 3) := by decide +kernel
theorem d7_13 : decode jdk_42_method_139_code 13 = .ok (.new 10, 3) := by decide +kernel
theorem d7_16 : decode jdk_42_method_139_code 16 = .ok (.dup, 1) := by decide +kernel
theorem d7_17 : decode jdk_42_method_139_code 17 = .ok (.iload_n 0, 1) := by decide +kernel
theorem d7_18 : decode jdk_42_method_139_code 18 = .ok (.invokestatic 1018, 3) := by decide +kernel
theorem d9_0 : decode jdk_43_method_46_code 0 = .ok (.iconst 1, 1) := by decide +kernel
theorem d9_1 : decode jdk_43_method_46_code 1 = .ok (.newarray .byte, 2) := by decide +kernel
theorem d9_3 : decode jdk_43_method_46_code 3 = .ok (.dup, 1) := by decide +kernel
theorem d9_4 : decode jdk_43_method_46_code 4 = .ok (.iconst 0, 1) := by decide +kernel
theorem d9_5 : decode jdk_43_method_46_code 5 = .ok (.iload_n 0, 1) := by decide +kernel
theorem d9_6 : decode jdk_43_method_46_code 6 = .ok (.i2b, 1) := by decide +kernel
theorem d9_7 : decode jdk_43_method_46_code 7 = .ok (.bastore, 1) := by decide +kernel
theorem d9_8 : decode jdk_43_method_46_code 8 = .ok (.areturn, 1) := by decide +kernel
theorem ef_9_I (m : MethodId) (x0 : Int32) : entryFrame m #[(.int x0)] 1 = mkF m 0 #[vi x0] [] := by first | (simp [entryFrame, mkF, argsToLocals, Value.category]; done) | rfl
def Qrm9 (Z : State) (p1 : Int32) (h0 : Heap) (n0 : Nat) (v : Option Value) (h : Heap) (L : List Loc) : Prop := ∃ b2 : Addr, ∃ k2 : ClassId, v = some (.ref b2) ∧ Fr n0 L ∧ Keep h0 h [] ∧ h0.size ≤ b2 ∧ Exa Z h b2 "[B" ∧ Arv Z h b2 k2 .byte (1 : Int32) [(.int (nar .byte (p1.toInt8.toInt32)))] (.int 0)
set_option maxRecDepth 65536 in
set_option maxHeartbeats 40000000 in
theorem rm9 (l : Launch) (Z : State) (a0 : Array Value) (hw : ∀ d ∈ tables_1, d.before a0 Z = true) (ws : List Jvm.Cond) (p1 : Int32) (h0 : Heap) (n0 : Nat) (O0 : Old Z n0 h0) :
    MF l Z h0 (⟨"java/lang/StringLatin1", "toBytes", "(C)[B"⟩ : MethodName) jdk_43_method_46_code 1 (some (.array .byte)) ws (⟨0, 1, 1, 0⟩ : Room) #[(.int p1)] (Qrm9 Z p1 h0 n0) := by
  refine MetFree.of_bodySF (plainFor_of_name pn_7) hisR ?_
  intro p e s m args below meth c s₁ Bd hml0 hP hK
  obtain ⟨rfl, hZ, hh⟩ := hP
  have hx := Bd.exec
  have hby := Bd.bytes
  have X0 : Stand p l e (⟨0, 1, 1, 0⟩ : Room) s m #[(.int p1)] below meth c s₁ [] 0 0 := Stand.of_body Bd
  have e0 : s₁.heap = h0 := by rw [← hh, Bd.state]; rfl
  have N0 := Fr.nil n0
  have pre0 : ∀ t, Steps p.tables e below (s₁.setTop (mkF m 0 #[vi p1] [])) t → Steps p.tables e below (s₁.setTop (entryFrame m #[(.int p1)] 1)) t := fun t k => castTop (ef_9_I m p1) k
  obtain ⟨T2, h2, k2, X2, e2, E2, A2, B2, st2⟩ := newPE X0 hx hZ (W hw 19 rfl) e0 (g := (mkF m 1 #[vi p1] [(.int 1)])) rfl (hb hby d9_1) rfl (by decide) (cap := 1) (by decide) (by decide) (by decide) (by decide) (ad := "[B") (by decide)
  obtain ⟨b2, g2⟩ : ∃ z, z = h0.size := ⟨_, rfl⟩
  rw [← g2] at A2 B2 st2
  have g_b2 := own_born O0 (own_eqle g2)
  have sz_b2 := Nat.le_trans (Keep.refl h0 []).1 (own_eqle g2)
  have K2 := (Keep.refl h0 []).ext E2
  have V2 : Arv Z h2 b2 k2 .byte (1 : Int32) [] (.int 0) := Arv.new A2 (by decide)
  have V3 : Arv Z h2 b2 k2 .byte (1 : Int32) [(.int 0)] (.int 0) := V2.pad (pad_rep [] (.int 0) 1)
  obtain ⟨cl4, Ar4, q4, S4, M4, Hs4, G4⟩ := id V3
  have hin4 : ¬ ((0 : Int32) < 0 ∨ cl4.slots.size ≤ ((0 : Int32)).toNatClampNeg) := inb_of S4 ⟨by decide, by decide⟩
  obtain ⟨T5, h5, X5, e5, W5, st5⟩ := stB X2 hx hZ e2 Ar4 (j := (0 : Int32)) hin4 (g := (mkF m 7 #[vi p1] [(.int (p1.toInt8.toInt32)), (.int 0), (.ref b2), (.ref b2)])) rfl rfl (hb hby d9_7)
  have K5 := K2.wr W5 (Or.inr sz_b2)
  have N5 := Fr.snoc X5 N0 g_b2
  have Vw5 : Arv Z h5 b2 k2 .byte (1 : Int32) [(.int (nar .byte (p1.toInt8.toInt32)))] (.int 0) := Arv.set Ar4 q4 S4 M4 Hs4 G4 (fits_nar_byte _) W5 0 rfl (Nat.le_of_ble_eq_true rfl)
  have f6 := (B2.wr W5)
  obtain ⟨fs, hr, hrun, hended, hW, hsame⟩ := X5.leave (v := some (.ref b2)) (fun h => by rw [Bd.returns] at h; cases h)
  refine ⟨_, _, pre0 _ ?_, hrun, hended, _, _, rfl, ?_, ⟨_, rfl⟩, hW, hsame.mono (by decide) (by decide)⟩
  · show Steps p.tables e below (s₁.setTop (mkF m 0 #[vi p1] [])) _
    refine XS.iconst X0.here hx rfl (hb hby d9_0) ?_
    refine st2 _ ?_
    refine XS.dup X2.here hx rfl (hb hby d9_3) rfl rfl ?_
    refine XS.iconst X2.here hx rfl (hb hby d9_4) ?_
    refine XS.iloadN X2.here hx rfl (hb hby d9_5) rfl ?_
    refine XS.i2b X2.here hx rfl (hb hby d9_6) rfl ?_
    refine st5 _ ?_
    jvm_step X5.here [X5.here.top, hx, (hb hby d9_8), X5.method', Bd.returns, Value.isRef, FieldType.isReference]
    first | (intro acts; rw [hr _ acts rfl rfl rfl]) | rw [hr _ _ rfl rfl rfl]
    exact Steps.refl _
  · show Qrm9 Z p1 h0 n0 _ T5.heap _
    rw [e5]
    exact ⟨b2, k2, rfl, N5, K5, sz_b2, f6, Vw5⟩
theorem pd_9 : parseMethodDescriptor "(C)[B" = some ⟨[.char], some (.array .byte)⟩ := by decide +kernel
theorem d7_21 : decode jdk_42_method_139_code 21 = .ok (.iconst 0, 1) := by decide +kernel
theorem d7_22 : decode jdk_42_method_139_code 22 = .ok (.invokespecial 209, 3) := by decide +kernel
theorem d10_0 : decode jdk_42_method_151_code 0 = .ok (.aload_n 0, 1) := by decide +kernel
theorem d10_1 : decode jdk_42_method_151_code 1 = .ok (.invokespecial 1, 3) := by decide +kernel
theorem d10_4 : decode jdk_42_method_151_code 4 = .ok (.aload_n 0, 1) := by decide +kernel
theorem d10_5 : decode jdk_42_method_151_code 5 = .ok (.aload_n 1, 1) := by decide +kernel
theorem d10_6 : decode jdk_42_method_151_code 6 = .ok (.putfield 9, 3) := by decide +kernel
theorem d10_9 : decode jdk_42_method_151_code 9 = .ok (.aload_n 0, 1) := by decide +kernel
theorem d10_10 : decode jdk_42_method_151_code 10 = .ok (.iload_n 2, 1) := by decide +kernel
theorem d10_11 : decode jdk_42_method_151_code 11 = .ok (.putfield 15, 3) := by decide +kernel
theorem d10_14 : decode jdk_42_method_151_code 14 = .ok (.return_, 1) := by decide +kernel
theorem ef_10_RRI (m : MethodId) (x0 : Addr) (x1 : Addr) (x2 : Int32) : entryFrame m #[(.ref x0), (.ref x1), (.int x2)] 3 = mkF m 0 #[vr x0, vr x1, vi x2] [] := by first | (simp [entryFrame, mkF, argsToLocals, Value.category]; done) | rfl
def Qrm10 (Z : State) (a1 : Addr) (a2 : Addr) (h0 : Heap) (n0 : Nat) (v : Option Value) (h : Heap) (L : List Loc) : Prop := v = none ∧ Fr n0 L ∧ Keep h0 h [a1] ∧ Exa Z h a1 "java/lang/String" ∧ Fld Z h a1 "java/lang/String" "value" "[B" (.ref a2) ∧ Fld Z h a1 "java/lang/String" "coder" "B" (.int 0)
set_option maxRecDepth 65536 in
set_option maxHeartbeats 40000000 in
theorem rm10 (l : Launch) (Z : State) (a0 : Array Value) (hw : ∀ d ∈ tables_1, d.before a0 Z = true) (ws : List Jvm.Cond) (a1 : Addr) (a2 : Addr) (h0 : Heap) (n0 : Nat) (O0 : Old Z n0 h0) (E_4 : Exa Z h0 a1 "java/lang/String") (F_5 : Fld Z h0 a1 "java/lang/String" "value" "[B" .null) (g_a1 : n0 ≤ a1) (F_7 : Fld Z h0 a1 "java/lang/String" "coder" "B" (.int 0)) :
    MF l Z h0 (⟨"java/lang/String", "<init>", "([BB)V"⟩ : MethodName) jdk_42_method_151_code 3 none ws (⟨1, 0, 0, 12⟩ : Room) #[(.ref a1), (.ref a2), (.int 0)] (Qrm10 Z a1 a2 h0 n0) := by
  refine MetFree.of_bodySF (plainFor_of_name pn_4) hisR ?_
  intro p e s m args below meth c s₁ Bd hml0 hP hK
  obtain ⟨rfl, hZ, hh⟩ := hP
  have hx := Bd.exec
  have hby := Bd.bytes
  have hml : c.maxLocals = 3 := hml0
  have hown : s.vm.findClass "java/lang/String" = some m.cls := findClass_of_methodNamed Bd.named
  have hnm := (name_of_methodNamed Bd.named Bd.method).1
  have X0 : Stand p l e (⟨1, 0, 0, 12⟩ : Room) s m #[(.ref a1), (.ref a2), (.int 0)] below meth c s₁ [] 0 0 := Stand.of_body Bd
  have e0 : s₁.heap = h0 := by rw [← hh, Bd.state]; rfl
  have N0 := Fr.nil n0
  have pre0 : ∀ t, Steps p.tables e below (s₁.setTop (mkF m 0 #[vr a1, vr a2, vi 0] [])) t → Steps p.tables e below (s₁.setTop (entryFrame m #[(.ref a1), (.ref a2), (.int 0)] 3)) t := fun t k => castTop (ef_10_RRI m a1 a2 (0 : Int32)) k
  obtain ⟨T3, X3, e3, st3⟩ := initO X0 hx hZ hown (W hw 11 rfl) (W hw 12 rfl) (W hw 13 rfl) e0 (g := (mkF m 1 #[vr a1, vr a2, vi 0] [(.ref a1)])) rfl (by rw [hml]; rfl) rfl (hb hby d10_1) (by decide) (W := 0) (by show 2 * 0 + _ ≤ _; exact Nat.le_of_eq rfl) (by decide)
  obtain ⟨T6, h6, X6, e6, W6, st6⟩ := putF X3 hx hZ hown (host := "") (Or.inl (W hw 28 rfl)) Via.refl e3 F_5 E_4 (Or.inr ⟨(W hw 29 rfl), rfl, hnm⟩) (W hw 1 rfl) (ty := (.array .byte)) (by decide) rfl rfl (g := (mkF m 6 #[vr a1, vr a2, vi 0] [(.ref a2), (.ref a1)])) rfl rfl (hb hby d10_6)
  have K6 := (Keep.refl h0 [a1]).wr W6 (Or.inl (List.mem_of_getElem? (i := 0) rfl))
  have N6 := Fr.snoc X6 N0 g_a1
  have Fw6 := F_5.same W6
  have f8 := (F_7.other W6 (Or.inr (slot_ne (Or.inr (W hw 27 rfl)) (Or.inr (W hw 29 rfl)) (by decide) (t := .byte) (t' := (.array .byte)) (by decide) (by decide))))
  have f9 := (E_4.wr W6)
  obtain ⟨T10, h10, X10, e10, W10, st10⟩ := putFN X6 hx hZ hown (W hw 26 rfl) Via.refl e6 f8 f9 (Or.inr ⟨(W hw 27 rfl), rfl, hnm⟩) (W hw 1 rfl) (ty := .byte) (v' := (.int 0)) (by decide) rfl rfl (g := (mkF m 11 #[vr a1, vr a2, vi 0] [(.int 0), (.ref a1)])) rfl rfl (hb hby d10_11)
  have K10 := K6.wr W10 (Or.inl (List.mem_of_getElem? (i := 0) rfl))
  have N10 := Fr.snoc X10 N6 g_a1
  have Fw10 := f8.same W10
  have f11 := (f9.wr W10)
  have f12 := (Fw6.other W10 (Or.inr (slot_ne (Or.inr (W hw 29 rfl)) (Or.inr (W hw 27 rfl)) (by decide) (t := (.array .byte)) (t' := .byte) (by decide) (by decide))))
  obtain ⟨fs, hr, hrun, hended, hW, hsame⟩ := X10.leave (v := none) (fun _ => rfl)
  refine ⟨_, _, pre0 _ ?_, hrun, hended, _, _, rfl, ?_, ⟨_, rfl⟩, hW, hsame.mono (by decide) (by decide)⟩
  · show Steps p.tables e below (s₁.setTop (mkF m 0 #[vr a1, vr a2, vi 0] [])) _
    refine XS.aloadN X0.here hx rfl (hb hby d10_0) rfl rfl ?_
    refine st3 _ ?_
    refine XS.aloadN X3.here hx rfl (hb hby d10_4) rfl rfl ?_
    refine XS.aloadN X3.here hx rfl (hb hby d10_5) rfl rfl ?_
    refine st6 _ ?_
    refine XS.aloadN X6.here hx rfl (hb hby d10_9) rfl rfl ?_
    refine XS.iloadN X6.here hx rfl (hb hby d10_10) rfl ?_
    refine st10 _ ?_
    exact X10.returnOut hx Bd.returns (hb hby d10_14) hr
  · show Qrm10 Z a1 a2 h0 n0 _ T10.heap _
    rw [e10]
    exact ⟨rfl, N10, K10, f11, f12, Fw10⟩
theorem pd_10 : parseMethodDescriptor "([BB)V" = some ⟨[(.array .byte), .byte], none⟩ := by decide +kernel
theorem d7_25 : decode jdk_42_method_139_code 25 = .ok (.areturn, 1) := by decide +kernel
theorem ef_7_I (m : MethodId) (x0 : Int32) : entryFrame m #[(.int x0)] 1 = mkF m 0 #[vi x0] [] := by first | (simp [entryFrame, mkF, argsToLocals, Value.category]; done) | rfl
def Qrm7 (Z : State) (p1 : Int32) (p2 : Int32) (h0 : Heap) (n0 : Nat) (v : Option Value) (h : Heap) (L : List Loc) : Prop := ∃ b8 : Addr, ∃ b10 : Addr, ∃ k11 : ClassId, v = some (.ref b8) ∧ Fr n0 L ∧ Keep h0 h [] ∧ h0.size ≤ b8 ∧ h0.size ≤ b10 ∧ b8 ≠ b10 ∧ Exa Z h b8 "java/lang/String" ∧ Fld Z h b8 "java/lang/String" "value" "[B" (.ref b10) ∧ Fld Z h b8 "java/lang/String" "coder" "B" (.int 0) ∧ Exa Z h b10 "[B" ∧ Arv Z h b10 k11 .byte (1 : Int32) [(.int (nar .byte (p1.toInt8.toInt32)))] (.int 0)
set_option maxRecDepth 65536 in
set_option maxHeartbeats 40000000 in
theorem rm7 (l : Launch) (Z : State) (a0 : Array Value) (hw : ∀ d ∈ tables_1, d.before a0 Z = true) (ws : List Jvm.Cond) (p1 : Int32) (p2 : Int32) (h0 : Heap) (n0 : Nat) (O0 : Old Z n0 h0) (S_3 : Sta Z Z.heap "java/lang/String" "COMPACT_STRINGS" "Z" (.int p2)) (hc5 : ¬ (p2 = (0 : Int32))) (hc6 : ¬ ((255 : Int32) < p1)) :
    MF l Z h0 (⟨"java/lang/String", "valueOf", "(C)Ljava/lang/String;"⟩ : MethodName) jdk_42_method_139_code 1 (some (.object "java/lang/String")) ws (⟨2, 2, 5, 27⟩ : Room) #[(.int p1)] (Qrm7 Z p1 p2 h0 n0) := by
  refine MetFree.of_bodySF (plainFor_of_name pn_4) hisR ?_
  intro p e s m args below meth c s₁ Bd hml0 hP hK
  obtain ⟨rfl, hZ, hh⟩ := hP
  have hx := Bd.exec
  have hby := Bd.bytes
  have hml : c.maxLocals = 1 := hml0
  have hown : s.vm.findClass "java/lang/String" = some m.cls := findClass_of_methodNamed Bd.named
  have X0 : Stand p l e (⟨2, 2, 5, 27⟩ : Room) s m #[(.int p1)] below meth c s₁ [] 0 0 := Stand.of_body Bd
  have e0 : s₁.heap = h0 := by rw [← hh, Bd.state]; rfl
  have N0 := Fr.nil n0
  have pre0 : ∀ t, Steps p.tables e below (s₁.setTop (mkF m 0 #[vi p1] [])) t → Steps p.tables e below (s₁.setTop (entryFrame m #[(.int p1)] 1)) t := fun t k => castTop (ef_7_I m p1) k
  obtain ⟨T4, X4, e4, st4⟩ := getS2 X0 hx hZ hown (host := "") (Or.inl (W hw 14 rfl)) Via.refl e0 (S_3.ext O0.2) (g := (mkF m 0 #[vi p1] [])) rfl (hb hby d7_0)
  obtain ⟨_, T7, L7, X7, hQ7, st7⟩ := cS X4 hx hZ hown (W hw 33 rfl) (W hw 34 rfl) (W hw 35 rfl) (W hw 36 rfl) (by decide) (rm8 l Z a0 hw [] p1 h0 n0 O0 hc6) e4 #[vi p1] [] (by rw [hml]; rfl) (hb hby d7_7) pd_8 rfl (W := 0) (Nat.le_of_eq rfl) (by decide) (by decide) (by decide) (by decide)
  obtain ⟨rfl, Nq7, e7⟩ := hQ7
  have N7 := Fr.app N0 Nq7
  obtain ⟨T8, h8, X8, e8, E8, A8, D8, U8, st8⟩ := newO X7 hx hZ hown (W hw 37 rfl) (W hw 1 rfl) (W hw 2 rfl) e7 (g := (mkF m 13 #[vi p1] [])) rfl (hb hby d7_13) (by decide) (by decide)
  obtain ⟨b8, g8⟩ : ∃ z, z = h0.size := ⟨_, rfl⟩
  rw [← g8] at A8 D8 U8 st8
  have g_b8 := own_born O0 (own_eqle g8)
  have sz_b8 := Nat.le_trans (Keep.refl h0 []).1 (own_eqle g8)
  have K8 := (Keep.refl h0 []).ext E8
  have O8 := O0.ext E8
  have F8_coder : Fld Z h8 b8 "java/lang/String" "coder" "B" (.int 0) := D8 (Or.inr (W hw 27 rfl)) (ty := .byte) (by decide)
  have F8_value : Fld Z h8 b8 "java/lang/String" "value" "[B" .null := D8 (Or.inr (W hw 29 rfl)) (ty := (.array .byte)) (by decide)
  obtain ⟨_, T9, L9, X9, hQ9, st9⟩ := cS X8 hx hZ hown (W hw 38 rfl) (W hw 39 rfl) (W hw 35 rfl) (W hw 40 rfl) (by decide) (rm9 l Z a0 hw [] p1 h8 n0 O8 ) e8 #[vi p1] [(.ref b8), (.ref b8)] (by rw [hml]; rfl) (hb hby d7_18) pd_9 rfl (W := 2) (Nat.le_of_eq rfl) (by decide) (by decide) (by decide) (by decide)
  obtain ⟨b10, k11, rfl, Nq9, K9, sq9_b10, P9_0, P9_1⟩ := hQ9
  have N9 := Fr.app N7 Nq9
  have ne12 := (own_ltn A8.lt sq9_b10)
  have sz_b10 := Nat.le_trans K8.1 sq9_b10
  have KK9 := Keep.trans (h := h8) K8 K9 all0
  have O9 := O8.keep K9 all0
  have f13 := (A8.keep K9)
  have f14 := (F8_value.keep K9 nin0)
  have f15 := (F8_coder.keep K9 nin0)
  obtain ⟨_, T16, L16, X16, hQ16, st16⟩ := cI X9 hx hZ hown (W hw 41 rfl) (W hw 42 rfl) (W hw 43 rfl) (W hw 2 rfl) rfl (by decide) (rm10 l Z a0 hw [] b8 b10 T9.heap n0 O9 f13 f14 g_b8 f15) rfl #[vi p1] [(.ref b8)] (by rw [hml]; rfl) (hb hby d7_22) pd_10 rfl (W := 1) (Nat.le_of_eq rfl) (by decide) (by decide) (by decide) (by decide)
  obtain ⟨rfl, Nq16, K16, P16_0, P16_1, P16_2⟩ := hQ16
  have N16 := Fr.app N9 Nq16
  have KK16 := Keep.trans (h := T9.heap) KK9 K16 (allS (Or.inr sz_b8) all0)
  have f17 := (P9_0.keep K16)
  have f18 := (P9_1.keep K16 (ninS (Ne.symm ne12) nin0))
  obtain ⟨fs, hr, hrun, hended, hW, hsame⟩ := X16.leave (v := some (.ref b8)) (fun h => by rw [Bd.returns] at h; cases h)
  refine ⟨_, _, pre0 _ ?_, hrun, hended, _, _, rfl, ?_, ⟨_, rfl⟩, hW, hsame.mono (by decide) (by decide)⟩
  · show Steps p.tables e below (s₁.setTop (mkF m 0 #[vi p1] [])) _
    refine st4 _ ?_
    refine XS.ifNo X4.here hx rfl (hb hby d7_3) rfl ((if0 _ _).trans (feq (hc5 : ¬ (p2 = (0 : Int32)))).1) ?_
    refine XS.iloadN X4.here hx rfl (hb hby d7_6) rfl ?_
    refine st7 _ ?_
    refine XS.ifNo X7.here hx rfl (hb hby d7_10) rfl ((if0 _ _).trans (feq ((by decide) : ¬ ((1 : Int32) = (0 : Int32)))).1) ?_
    refine st8 _ ?_
    refine XS.dup X8.here hx rfl (hb hby d7_16) rfl rfl ?_
    refine XS.iloadN X8.here hx rfl (hb hby d7_17) rfl ?_
    refine st9 _ ?_
    refine XS.iconst X9.here hx rfl (hb hby d7_21) ?_
    show Steps p.tables e below (T9.setTop (mkF m 22 #[vi p1] [(.int 0), (.ref b10), (.ref b8), (.ref b8)])) _
    refine st16 _ ?_
    jvm_step X16.here [X16.here.top, hx, (hb hby d7_25), X16.method', Bd.returns, Value.isRef, FieldType.isReference]
    first | (intro acts; rw [hr _ acts rfl rfl rfl]) | rw [hr _ _ rfl rfl rfl]
    exact Steps.refl _
  · show Qrm7 Z p1 p2 h0 n0 _ T16.heap _
    exact ⟨b8, b10, k11, rfl, N16, KK16, sz_b8, sz_b10, ne12, P16_0, P16_1, P16_2, f17, f18⟩
theorem pd_11 : parseMethodDescriptor "(C)Ljava/lang/String;" = some ⟨[.char], some (.object "java/lang/String")⟩ := by decide +kernel
theorem d11_0 : decode jdk_38_method_2_code 0 = .ok (.aload_n 0, 1) := by decide +kernel
theorem d11_1 : decode jdk_38_method_2_code 1 = .ok (.invokespecial 1, 3) := by decide +kernel
theorem d12_0 : decode jdk_39_method_1_code 0 = .ok (.aload_n 0, 1) := by decide +kernel
theorem d12_1 : decode jdk_39_method_1_code 1 = .ok (.invokespecial 1, 3) := by decide +kernel
theorem d13_0 : decode jdk_22_method_1_code 0 = .ok (.aload_n 0, 1) := by decide +kernel
theorem d13_1 : decode jdk_22_method_1_code 1 = .ok (.invokespecial 1, 3) := by decide +kernel
theorem d13_4 : decode jdk_22_method_1_code 4 = .ok (.return_, 1) := by decide +kernel
theorem ef_13_R (m : MethodId) (x0 : Addr) : entryFrame m #[(.ref x0)] 1 = mkF m 0 #[vr x0] [] := by first | (simp [entryFrame, mkF, argsToLocals, Value.category]; done) | rfl
theorem pn_12 : plainName "java/util/AbstractCollection" = true := by first | (simp [plainName, overriddenIn]; done) | decide +kernel
def Qrm13 (Z : State) (a1 : Addr) (h0 : Heap) (n0 : Nat) (v : Option Value) (h : Heap) (L : List Loc) : Prop := v = none ∧ Fr n0 L ∧ h = h0
set_option maxRecDepth 65536 in
set_option maxHeartbeats 40000000 in
theorem rm13 (l : Launch) (Z : State) (a0 : Array Value) (hw : ∀ d ∈ tables_1, d.before a0 Z = true) (ws : List Jvm.Cond) (a1 : Addr) (h0 : Heap) (n0 : Nat) (O0 : Old Z n0 h0) :
    MF l Z h0 (⟨"java/util/AbstractCollection", "<init>", "()V"⟩ : MethodName) jdk_22_method_1_code 1 none ws (⟨1, 0, 0, 12⟩ : Room) #[(.ref a1)] (Qrm13 Z a1 h0 n0) := by
  refine MetFree.of_bodySF (plainFor_of_name pn_12) hisR ?_
  intro p e s m args below meth c s₁ Bd hml0 hP hK
  obtain ⟨rfl, hZ, hh⟩ := hP
  have hx := Bd.exec
  have hby := Bd.bytes
  have hml : c.maxLocals = 1 := hml0
  have hown : s.vm.findClass "java/util/AbstractCollection" = some m.cls := findClass_of_methodNamed Bd.named
  have X0 : Stand p l e (⟨1, 0, 0, 12⟩ : Room) s m #[(.ref a1)] below meth c s₁ [] 0 0 := Stand.of_body Bd
  have e0 : s₁.heap = h0 := by rw [← hh, Bd.state]; rfl
  have N0 := Fr.nil n0
  have pre0 : ∀ t, Steps p.tables e below (s₁.setTop (mkF m 0 #[vr a1] [])) t → Steps p.tables e below (s₁.setTop (entryFrame m #[(.ref a1)] 1)) t := fun t k => castTop (ef_13_R m a1) k
  obtain ⟨T2, X2, e2, st2⟩ := initO X0 hx hZ hown (W hw 62 rfl) (W hw 12 rfl) (W hw 13 rfl) e0 (g := (mkF m 1 #[vr a1] [(.ref a1)])) rfl (by rw [hml]; rfl) rfl (hb hby d13_1) (by decide) (W := 0) (by show 2 * 0 + _ ≤ _; exact Nat.le_of_eq rfl) (by decide)
  obtain ⟨fs, hr, hrun, hended, hW, hsame⟩ := X2.leave (v := none) (fun _ => rfl)
  refine ⟨_, _, pre0 _ ?_, hrun, hended, _, _, rfl, ?_, ⟨_, rfl⟩, hW, hsame.mono (by decide) (by decide)⟩
  · show Steps p.tables e below (s₁.setTop (mkF m 0 #[vr a1] [])) _
    refine XS.aloadN X0.here hx rfl (hb hby d13_0) rfl rfl ?_
    refine st2 _ ?_
    exact X2.returnOut hx Bd.returns (hb hby d13_4) hr
  · show Qrm13 Z a1 h0 n0 _ T2.heap _
    rw [e2]
    exact ⟨rfl, N0, rfl⟩
theorem pd_13 : parseMethodDescriptor "()V" = some ⟨[], none⟩ := by decide +kernel
theorem d12_4 : decode jdk_39_method_1_code 4 = .ok (.aload_n 0, 1) := by decide +kernel
theorem d12_5 : decode jdk_39_method_1_code 5 = .ok (.iconst 0, 1) := by decide +kernel
theorem d12_6 : decode jdk_39_method_1_code 6 = .ok (.putfield 7, 3) := by decide +kernel
theorem d12_9 : decode jdk_39_method_1_code 9 = .ok (.return_, 1) := by decide +kernel
theorem ef_12_R (m : MethodId) (x0 : Addr) : entryFrame m #[(.ref x0)] 1 = mkF m 0 #[vr x0] [] := by first | (simp [entryFrame, mkF, argsToLocals, Value.category]; done) | rfl
theorem pn_14 : plainName "java/util/AbstractList" = true := by first | (simp [plainName, overriddenIn]; done) | decide +kernel
def Qrm12 (Z : State) (a1 : Addr) (h0 : Heap) (n0 : Nat) (v : Option Value) (h : Heap) (L : List Loc) : Prop := v = none ∧ Fr n0 L ∧ Keep h0 h [a1] ∧ Exa Z h a1 "java/util/ArrayList" ∧ Fld Z h a1 "java/util/AbstractList" "modCount" "I" (.int 0) ∧ Fld Z h a1 "java/util/ArrayList" "elementData" "[Ljava/lang/Object;" .null ∧ Fld Z h a1 "java/util/ArrayList" "size" "I" (.int 0)
set_option maxRecDepth 65536 in
set_option maxHeartbeats 40000000 in
theorem rm12 (l : Launch) (Z : State) (a0 : Array Value) (hw : ∀ d ∈ tables_1, d.before a0 Z = true) (ws : List Jvm.Cond) (a1 : Addr) (h0 : Heap) (n0 : Nat) (O0 : Old Z n0 h0) (E_3 : Exa Z h0 a1 "java/util/ArrayList") (F_4 : Fld Z h0 a1 "java/util/AbstractList" "modCount" "I" (.int 0)) (g_a1 : n0 ≤ a1) (F_6 : Fld Z h0 a1 "java/util/ArrayList" "elementData" "[Ljava/lang/Object;" .null) (F_7 : Fld Z h0 a1 "java/util/ArrayList" "size" "I" (.int 0)) :
    MF l Z h0 (⟨"java/util/AbstractList", "<init>", "()V"⟩ : MethodName) jdk_39_method_1_code 1 none ws (⟨2, 0, 0, 24⟩ : Room) #[(.ref a1)] (Qrm12 Z a1 h0 n0) := by
  refine MetFree.of_bodySF (plainFor_of_name pn_14) hisR ?_
  intro p e s m args below meth c s₁ Bd hml0 hP hK
  obtain ⟨rfl, hZ, hh⟩ := hP
  have hx := Bd.exec
  have hby := Bd.bytes
  have hml : c.maxLocals = 1 := hml0
  have hown : s.vm.findClass "java/util/AbstractList" = some m.cls := findClass_of_methodNamed Bd.named
  have X0 : Stand p l e (⟨2, 0, 0, 24⟩ : Room) s m #[(.ref a1)] below meth c s₁ [] 0 0 := Stand.of_body Bd
  have e0 : s₁.heap = h0 := by rw [← hh, Bd.state]; rfl
  have N0 := Fr.nil n0
  have pre0 : ∀ t, Steps p.tables e below (s₁.setTop (mkF m 0 #[vr a1] [])) t → Steps p.tables e below (s₁.setTop (entryFrame m #[(.ref a1)] 1)) t := fun t k => castTop (ef_12_R m a1) k
  obtain ⟨_, T2, L2, X2, hQ2, st2⟩ := cI X0 hx hZ hown (W hw 56 rfl) (W hw 57 rfl) (W hw 61 rfl) (W hw 60 rfl) rfl (by decide) (rm13 l Z a0 hw [] a1 h0 n0 O0 ) e0 #[vr a1] [] (by rw [hml]; rfl) (hb hby d12_1) pd_13 rfl (W := 0) (Nat.le_of_eq rfl) (by decide) (by decide) (by decide) (by decide)
  obtain ⟨rfl, Nq2, e2⟩ := hQ2
  have N2 := Fr.app N0 Nq2
  obtain ⟨T5, h5, X5, e5, W5, st5⟩ := putF X2 hx hZ hown (host := "") (Or.inl (W hw 63 rfl)) Via.refl e2 F_4 E_3 (Or.inl (W hw 64 rfl)) (W hw 45 rfl) (ty := .int) (by decide) rfl rfl (g := (mkF m 6 #[vr a1] [(.int 0), (.ref a1)])) rfl rfl (hb hby d12_6)
  have K5 := (Keep.refl h0 [a1]).wr W5 (Or.inl (List.mem_of_getElem? (i := 0) rfl))
  have N5 := Fr.snoc X5 N2 g_a1
  have Fw5 := F_4.same W5
  have f8 := (E_3.wr W5)
  have f9 := (F_6.other W5 (Or.inr (slot_ne (Or.inl (W hw 67 rfl)) (Or.inl (W hw 64 rfl)) (by decide) (t := (.array (.object "java/lang/Object"))) (t' := .int) (by decide) (by decide))))
  have f10 := (F_7.other W5 (Or.inr (slot_ne (Or.inl (W hw 76 rfl)) (Or.inl (W hw 64 rfl)) (by decide) (t := .int) (t' := .int) (by decide) (by decide))))
  obtain ⟨fs, hr, hrun, hended, hW, hsame⟩ := X5.leave (v := none) (fun _ => rfl)
  refine ⟨_, _, pre0 _ ?_, hrun, hended, _, _, rfl, ?_, ⟨_, rfl⟩, hW, hsame.mono (by decide) (by decide)⟩
  · show Steps p.tables e below (s₁.setTop (mkF m 0 #[vr a1] [])) _
    refine XS.aloadN X0.here hx rfl (hb hby d12_0) rfl rfl ?_
    refine st2 _ ?_
    refine XS.aloadN X2.here hx rfl (hb hby d12_4) rfl rfl ?_
    refine XS.iconst X2.here hx rfl (hb hby d12_5) ?_
    refine st5 _ ?_
    exact X5.returnOut hx Bd.returns (hb hby d12_9) hr
  · show Qrm12 Z a1 h0 n0 _ T5.heap _
    rw [e5]
    exact ⟨rfl, N5, K5, f8, Fw5, f9, f10⟩
theorem d11_4 : decode jdk_38_method_2_code 4 = .ok (.aload_n 0, 1) := by decide +kernel
theorem d11_5 : decode jdk_38_method_2_code 5 = .ok (.getstatic 39, 3) := by decide +kernel
theorem d11_8 : decode jdk_38_method_2_code 8 = .ok (.putfield 9, 3) := by decide +kernel
theorem d11_11 : decode jdk_38_method_2_code 11 = .ok (.return_, 1) := by decide +kernel
theorem ef_11_R (m : MethodId) (x0 : Addr) : entryFrame m #[(.ref x0)] 1 = mkF m 0 #[vr x0] [] := by first | (simp [entryFrame, mkF, argsToLocals, Value.category]; done) | rfl
theorem pn_15 : plainName "java/util/ArrayList" = true := by first | (simp [plainName, overriddenIn]; done) | decide +kernel
def Qrm11 (Z : State) (a1 : Addr) (a7 : Addr) (h0 : Heap) (n0 : Nat) (v : Option Value) (h : Heap) (L : List Loc) : Prop := v = none ∧ Fr n0 L ∧ Keep h0 h [a1] ∧ Exa Z h a1 "java/util/ArrayList" ∧ Fld Z h a1 "java/util/AbstractList" "modCount" "I" (.int 0) ∧ Fld Z h a1 "java/util/ArrayList" "elementData" "[Ljava/lang/Object;" (.ref a7) ∧ Fld Z h a1 "java/util/ArrayList" "size" "I" (.int 0)
set_option maxRecDepth 65536 in
set_option maxHeartbeats 40000000 in
theorem rm11 (l : Launch) (Z : State) (a0 : Array Value) (hw : ∀ d ∈ tables_1, d.before a0 Z = true) (ws : List Jvm.Cond) (a1 : Addr) (a7 : Addr) (h0 : Heap) (n0 : Nat) (O0 : Old Z n0 h0) (E_2 : Exa Z h0 a1 "java/util/ArrayList") (F_3 : Fld Z h0 a1 "java/util/AbstractList" "modCount" "I" (.int 0)) (g_a1 : n0 ≤ a1) (F_4 : Fld Z h0 a1 "java/util/ArrayList" "elementData" "[Ljava/lang/Object;" .null) (F_5 : Fld Z h0 a1 "java/util/ArrayList" "size" "I" (.int 0)) (S_8 : Sta Z Z.heap "java/util/ArrayList" "DEFAULTCAPACITY_EMPTY_ELEMENTDATA" "[Ljava/lang/Object;" (.ref a7)) :
    MF l Z h0 (⟨"java/util/ArrayList", "<init>", "()V"⟩ : MethodName) jdk_38_method_2_code 1 none ws (⟨3, 0, 0, 36⟩ : Room) #[(.ref a1)] (Qrm11 Z a1 a7 h0 n0) := by
  refine MetFree.of_bodySF (plainFor_of_name pn_15) hisR ?_
  intro p e s m args below meth c s₁ Bd hml0 hP hK
  obtain ⟨rfl, hZ, hh⟩ := hP
  have hx := Bd.exec
  have hby := Bd.bytes
  have hml : c.maxLocals = 1 := hml0
  have hown : s.vm.findClass "java/util/ArrayList" = some m.cls := findClass_of_methodNamed Bd.named
  have X0 : Stand p l e (⟨3, 0, 0, 36⟩ : Room) s m #[(.ref a1)] below meth c s₁ [] 0 0 := Stand.of_body Bd
  have e0 : s₁.heap = h0 := by rw [← hh, Bd.state]; rfl
  have N0 := Fr.nil n0
  have pre0 : ∀ t, Steps p.tables e below (s₁.setTop (mkF m 0 #[vr a1] [])) t → Steps p.tables e below (s₁.setTop (entryFrame m #[(.ref a1)] 1)) t := fun t k => castTop (ef_11_R m a1) k
  obtain ⟨_, T6, L6, X6, hQ6, st6⟩ := cI X0 hx hZ hown (W hw 50 rfl) (W hw 51 rfl) (W hw 55 rfl) (W hw 54 rfl) rfl (by decide) (rm12 l Z a0 hw [] a1 h0 n0 O0 E_2 F_3 g_a1 F_4 F_5) e0 #[vr a1] [] (by rw [hml]; rfl) (hb hby d11_1) pd_13 rfl (W := 0) (Nat.le_of_eq rfl) (by decide) (by decide) (by decide) (by decide)
  obtain ⟨rfl, Nq6, K6, P6_0, P6_1, P6_2, P6_3⟩ := hQ6
  have N6 := Fr.app N0 Nq6
  have KK6 := Keep.trans (h := h0) (Keep.refl h0 [a1]) K6 (allS (Or.inl (List.mem_of_getElem? (i := 0) rfl)) all0)
  have O6 := O0.keep K6 (allS g_a1 all0)
  obtain ⟨T9, X9, e9, st9⟩ := getS2 X6 hx hZ hown (host := "") (Or.inl (W hw 65 rfl)) Via.refl rfl (S_8.ext O6.2) (g := (mkF m 5 #[vr a1] [(.ref a1)])) rfl (hb hby d11_5)
  obtain ⟨T10, h10, X10, e10, W10, st10⟩ := putF X9 hx hZ hown (host := "") (Or.inl (W hw 66 rfl)) Via.refl e9 P6_2 P6_0 (Or.inl (W hw 67 rfl)) (W hw 45 rfl) (ty := (.array (.object "java/lang/Object"))) (by decide) rfl rfl (g := (mkF m 8 #[vr a1] [(.ref a7), (.ref a1)])) rfl rfl (hb hby d11_8)
  have K10 := KK6.wr W10 (Or.inl (List.mem_of_getElem? (i := 0) rfl))
  have N10 := Fr.snoc X10 N6 g_a1
  have Fw10 := P6_2.same W10
  have f11 := (P6_0.wr W10)
  have f12 := (P6_1.other W10 (Or.inr (slot_ne (Or.inl (W hw 64 rfl)) (Or.inl (W hw 67 rfl)) (by decide) (t := .int) (t' := (.array (.object "java/lang/Object"))) (by decide) (by decide))))
  have f13 := (P6_3.other W10 (Or.inr (slot_ne (Or.inl (W hw 76 rfl)) (Or.inl (W hw 67 rfl)) (by decide) (t := .int) (t' := (.array (.object "java/lang/Object"))) (by decide) (by decide))))
  obtain ⟨fs, hr, hrun, hended, hW, hsame⟩ := X10.leave (v := none) (fun _ => rfl)
  refine ⟨_, _, pre0 _ ?_, hrun, hended, _, _, rfl, ?_, ⟨_, rfl⟩, hW, hsame.mono (by decide) (by decide)⟩
  · show Steps p.tables e below (s₁.setTop (mkF m 0 #[vr a1] [])) _
    refine XS.aloadN X0.here hx rfl (hb hby d11_0) rfl rfl ?_
    refine st6 _ ?_
    refine XS.aloadN X6.here hx rfl (hb hby d11_4) rfl rfl ?_
    refine st9 _ ?_
    refine st10 _ ?_
    exact X10.returnOut hx Bd.returns (hb hby d11_11) hr
  · show Qrm11 Z a1 a7 h0 n0 _ T10.heap _
    rw [e10]
    exact ⟨rfl, N10, K10, f11, f12, Fw10, f13⟩
theorem d14_0 : decode jdk_38_method_25_code 0 = .ok (.aload_n 0, 1) := by decide +kernel
theorem d14_1 : decode jdk_38_method_25_code 1 = .ok (.dup, 1) := by decide +kernel
theorem d14_2 : decode jdk_38_method_25_code 2 = .ok (.getfield 63, 3) := by decide +kernel
theorem d14_5 : decode jdk_38_method_25_code 5 = .ok (.iconst 1, 1) := by decide +kernel
theorem d14_6 : decode jdk_38_method_25_code 6 = .ok (.iadd, 1) := by decide +kernel
theorem d14_7 : decode jdk_38_method_25_code 7 = .ok (.putfield 63, 3) := by decide +kernel
theorem d14_10 : decode jdk_38_method_25_code 10 = .ok (.aload_n 0, 1) := by decide +kernel
theorem d14_11 : decode jdk_38_method_25_code 11 = .ok (.aload_n 1, 1) := by decide +kernel
theorem d14_12 : decode jdk_38_method_25_code 12 = .ok (.aload_n 0, 1) := by decide +kernel
theorem d14_13 : decode jdk_38_method_25_code 13 = .ok (.getfield 9, 3) := by decide +kernel
theorem d14_16 : decode jdk_38_method_25_code 16 = .ok (.aload_n 0, 1) := by decide +kernel
theorem d14_17 : decode jdk_38_method_25_code 17 = .ok (.getfield 48, 3) := by decide +kernel
theorem d14_20 : decode jdk_38_method_25_code 20 = .ok (.invokevirtual 131, 3) := by decide +kernel
theorem d15_0 : decode jdk_38_method_24_code 0 = .ok (.iload_n 3, 1) := by decide +kernel
theorem d15_1 : decode jdk_38_method_24_code 1 = .ok (.aload_n 2, 1) := by decide +kernel
theorem d15_2 : decode jdk_38_method_24_code 2 = .ok (.arraylength, 1) := by decide +kernel
theorem d15_3 : decode jdk_38_method_24_code 3 = .ok (.if_icmp .ne 8, 3) := by decide +kernel
theorem d15_6 : decode jdk_38_method_24_code 6 = .ok (.aload_n 0, 1) := by decide +kernel
theorem d15_7 : decode jdk_38_method_24_code 7 = .ok (.invokevirtual 129, 3) := by decide +kernel
theorem d16_0 : decode jdk_38_method_7_code 0 = .ok (.aload_n 0, 1) := by decide +kernel
theorem d16_1 : decode jdk_38_method_7_code 1 = .ok (.aload_n 0, 1) := by decide +kernel
theorem d16_2 : decode jdk_38_method_7_code 2 = .ok (.getfield 48, 3) := by decide +kernel
theorem d16_5 : decode jdk_38_method_7_code 5 = .ok (.iconst 1, 1) := by decide +kernel
theorem d16_6 : decode jdk_38_method_7_code 6 = .ok (.iadd, 1) := by decide +kernel
theorem d16_7 : decode jdk_38_method_7_code 7 = .ok (.invokevirtual 69, 3) := by decide +kernel
theorem d17_0 : decode jdk_38_method_6_code 0 = .ok (.aload_n 0, 1) := by decide +kernel
theorem d17_1 : decode jdk_38_method_6_code 1 = .ok (.getfield 9, 3) := by decide +kernel
theorem d17_4 : decode jdk_38_method_6_code 4 = .ok (.arraylength, 1) := by decide +kernel
theorem d17_5 : decode jdk_38_method_6_code 5 = .ok (.istore_n 2, 1) := by decide +kernel
theorem d17_6 : decode jdk_38_method_6_code 6 = .ok (.iload_n 2, 1) := by decide +kernel
theorem d17_7 : decode jdk_38_method_6_code 7 = .ok (.ifCond .gt 13, 3) := by decide +kernel
theorem d17_10 : decode jdk_38_method_6_code 10 = .ok (.aload_n 0, 1) := by decide +kernel
theorem d17_11 : decode jdk_38_method_6_code 11 = .ok (.getfield 9, 3) := by decide +kernel
theorem d17_14 : decode jdk_38_method_6_code 14 = .ok (.getstatic 39, 3) := by decide +kernel
theorem d17_17 : decode jdk_38_method_6_code 17 = .ok (.if_acmp .eq 28, 3) := by decide +kernel
theorem d17_45 : decode jdk_38_method_6_code 45 = .ok (.aload_n 0, 1) := by decide +kernel
theorem d17_46 : decode jdk_38_method_6_code 46 = .ok (.bipush 10, 2) := by decide +kernel
theorem d17_48 : decode jdk_38_method_6_code 48 = .ok (.iload_n 1, 1) := by decide +kernel
theorem d17_49 : decode jdk_38_method_6_code 49 = .ok (.invokestatic 79, 3) := by decide +kernel
theorem d18_0 : decode jdk_29_method_65_code 0 = .ok (.iload_n 0, 1) := by decide +kernel
theorem d18_1 : decode jdk_29_method_65_code 1 = .ok (.iload_n 1, 1) := by decide +kernel
theorem d18_2 : decode jdk_29_method_65_code 2 = .ok (.if_icmp .lt 7, 3) := by decide +kernel
theorem d18_9 : decode jdk_29_method_65_code 9 = .ok (.iload_n 1, 1) := by decide +kernel
theorem d18_10 : decode jdk_29_method_65_code 10 = .ok (.ireturn, 1) := by decide +kernel
theorem d18_5 : decode jdk_29_method_65_code 5 = .ok (.iload_n 0, 1) := by decide +kernel
theorem d18_6 : decode jdk_29_method_65_code 6 = .ok (.goto 4, 3) := by decide +kernel
theorem ef_18_II (m : MethodId) (x0 : Int32) (x1 : Int32) : entryFrame m #[(.int x0), (.int x1)] 2 = mkF m 0 #[vi x0, vi x1] [] := by first | (simp [entryFrame, mkF, argsToLocals, Value.category]; done) | rfl
def Qrm18 (Z : State) (p1 : Int32) (p2 : Int32) (h0 : Heap) (n0 : Nat) (v : Option Value) (h : Heap) (L : List Loc) : Prop := v = some (.int (own_maxI p1 p2)) ∧ Fr n0 L ∧ h = h0
set_option maxRecDepth 65536 in
set_option maxHeartbeats 40000000 in
theorem rm18 (l : Launch) (Z : State) (a0 : Array Value) (hw : ∀ d ∈ tables_1, d.before a0 Z = true) (ws : List Jvm.Cond) (p1 : Int32) (p2 : Int32) (h0 : Heap) (n0 : Nat) (O0 : Old Z n0 h0) :
    MF l Z h0 (⟨"java/lang/Math", "max", "(II)I"⟩ : MethodName) jdk_29_method_65_code 2 (some .int) ws (⟨0, 0, 0, 0⟩ : Room) #[(.int p1), (.int p2)] (Qrm18 Z p1 p2 h0 n0) := by
  refine MetFree.of_bodySF (Jvm.Free.JP.mathPlain rfl (by decide +kernel)) hisR ?_
  intro p e s m args below meth c s₁ Bd hml0 hP hK
  obtain ⟨rfl, hZ, hh⟩ := hP
  have hx := Bd.exec
  have hby := Bd.bytes
  have X0 : Stand p l e (⟨0, 0, 0, 0⟩ : Room) s m #[(.int p1), (.int p2)] below meth c s₁ [] 0 0 := Stand.of_body Bd
  have e0 : s₁.heap = h0 := by rw [← hh, Bd.state]; rfl
  have N0 := Fr.nil n0
  have pre0 : ∀ t, Steps p.tables e below (s₁.setTop (mkF m 0 #[vi p1, vi p2] [])) t → Steps p.tables e below (s₁.setTop (entryFrame m #[(.int p1), (.int p2)] 2)) t := fun t k => castTop (ef_18_II m p1 p2) k
  have pre3 : ∀ t, Steps p.tables e below (s₁.setTop (mkF m 2 #[vi p1, vi p2] [(.int p2), (.int p1)])) t → Steps p.tables e below (s₁.setTop (entryFrame m #[(.int p1), (.int p2)] 2)) t := fun t kt => pre0 t (by
    show Steps p.tables e below (s₁.setTop (mkF m 0 #[vi p1, vi p2] [])) _
    refine XS.iloadN X0.here hx rfl (hb hby d18_0) rfl ?_
    refine XS.iloadN X0.here hx rfl (hb hby d18_1) rfl ?_
    exact kt)
  by_cases hc : p1 < p2
  · obtain ⟨fs, hr, hrun, hended, hW, hsame⟩ := X0.leave (v := some (.int p2)) (fun h => by rw [Bd.returns] at h; cases h)
    refine ⟨_, _, pre3 _ ?_, hrun, hended, _, _, rfl, ?_, ⟨_, rfl⟩, hW, hsame.mono (by decide) (by decide)⟩
    · show Steps p.tables e below (s₁.setTop (mkF m 2 #[vi p1, vi p2] [(.int p2), (.int p1)])) _
      refine XS.icmpYes X0.here hx rfl (pc0 := 2) (pc' := 9) rfl (hb hby d18_2) rfl (tlt (hc : p1 < p2)).1 (by decide) (by decide) ?_
      refine XS.iloadN X0.here hx rfl (hb hby d18_9) rfl ?_
      exact retI X0 hx Bd.returns (hb hby d18_10) hr
    · show Qrm18 Z p1 p2 h0 n0 _ s₁.heap _
      rw [e0]
      exact ⟨(by rw [own_maxI, if_pos hc]), N0, rfl⟩
  · obtain ⟨fs, hr, hrun, hended, hW, hsame⟩ := X0.leave (v := some (.int p1)) (fun h => by rw [Bd.returns] at h; cases h)
    refine ⟨_, _, pre3 _ ?_, hrun, hended, _, _, rfl, ?_, ⟨_, rfl⟩, hW, hsame.mono (by decide) (by decide)⟩
    · show Steps p.tables e below (s₁.setTop (mkF m 2 #[vi p1, vi p2] [(.int p2), (.int p1)])) _
      refine XS.icmpNo X0.here hx rfl (hb hby d18_2) rfl (flt (hc : ¬ (p1 < p2))).1 ?_
      refine XS.iloadN X0.here hx rfl (hb hby d18_5) rfl ?_
      refine XS.goto X0.here hx rfl (pc0 := 6) (pc' := 10) rfl (hb hby d18_6) (by decide) (by decide) ?_
      exact retI X0 hx Bd.returns (hb hby d18_10) hr
    · show Qrm18 Z p1 p2 h0 n0 _ s₁.heap _
      rw [e0]
      exact ⟨(by rw [own_maxI, if_neg hc]), N0, rfl⟩
theorem pd_16 : parseMethodDescriptor "(II)I" = some ⟨[.int, .int], some .int⟩ := by decide +kernel
theorem d17_52 : decode jdk_38_method_6_code 52 = .ok (.anewarray 7, 3) := by decide +kernel
theorem d17_55 : decode jdk_38_method_6_code 55 = .ok (.dup_x1, 1) := by decide +kernel
theorem d17_56 : decode jdk_38_method_6_code 56 = .ok (.putfield 9, 3) := by decide +kernel
theorem d17_59 : decode jdk_38_method_6_code 59 = .ok (.areturn, 1) := by decide +kernel
theorem ef_17_RI (m : MethodId) (x0 : Addr) (x1 : Int32) : entryFrame m #[(.ref x0), (.int x1)] 4 = mkF m 0 #[vr x0, vi x1, .unset, .unset] [] := by first | (simp [entryFrame, mkF, argsToLocals, Value.category]; done) | rfl
def Qrm17 (Z : State) (a1 : Addr) (a2 : Addr) (k5 : ClassId) (h0 : Heap) (n0 : Nat) (v : Option Value) (h : Heap) (L : List Loc) : Prop := ∃ b12 : Addr, ∃ k12 : ClassId, v = some (.ref b12) ∧ Fr n0 L ∧ Keep h0 h [a1] ∧ h0.size ≤ b12 ∧ Exa Z h b12 "[Ljava/lang/Object;" ∧ Ovr Z k12 "java/lang/Object" ∧ Arv Z h b12 k12 (.object "java/lang/Object") (10 : Int32) [] .null ∧ Fld Z h a1 "java/util/ArrayList" "elementData" "[Ljava/lang/Object;" (.ref b12) ∧ Exa Z h a1 "java/util/ArrayList" ∧ Fld Z h a1 "java/util/ArrayList" "size" "I" (.int 0) ∧ Fld Z h a1 "java/util/AbstractList" "modCount" "I" (.int 1)
set_option maxRecDepth 65536 in
set_option maxHeartbeats 40000000 in
theorem rm17 (l : Launch) (Z : State) (a0 : Array Value) (hw : ∀ d ∈ tables_1, d.before a0 Z = true) (ws : List Jvm.Cond) (a1 : Addr) (a2 : Addr) (k5 : ClassId) (h0 : Heap) (n0 : Nat) (O0 : Old Z n0 h0) (F_3 : Fld Z h0 a1 "java/util/ArrayList" "elementData" "[Ljava/lang/Object;" (.ref a2)) (V_6 : Arv Z Z.heap a2 k5 (.object "java/lang/Object") (0 : Int32) [] .null) (S_9 : Sta Z Z.heap "java/util/ArrayList" "DEFAULTCAPACITY_EMPTY_ELEMENTDATA" "[Ljava/lang/Object;" (.ref a2)) (E_14 : Exa Z h0 a1 "java/util/ArrayList") (g_a1 : n0 ≤ a1) (F_18 : Fld Z h0 a1 "java/util/ArrayList" "size" "I" (.int 0)) (F_19 : Fld Z h0 a1 "java/util/AbstractList" "modCount" "I" (.int 1)) :
    MF l Z h0 (⟨"java/util/ArrayList", "grow", "(I)[Ljava/lang/Object;"⟩ : MethodName) jdk_38_method_6_code 4 (some (.array (.object "java/lang/Object"))) ws (⟨1, 1, 10, 14⟩ : Room) #[(.ref a1), (.int 1)] (Qrm17 Z a1 a2 k5 h0 n0) := by
  refine MetFree.of_bodySF (plainFor_of_name pn_15) hisR ?_
  intro p e s m args below meth c s₁ Bd hml0 hP hK
  obtain ⟨rfl, hZ, hh⟩ := hP
  have hx := Bd.exec
  have hby := Bd.bytes
  have hml : c.maxLocals = 4 := hml0
  have hown : s.vm.findClass "java/util/ArrayList" = some m.cls := findClass_of_methodNamed Bd.named
  have X0 : Stand p l e (⟨1, 1, 10, 14⟩ : Room) s m #[(.ref a1), (.int 1)] below meth c s₁ [] 0 0 := Stand.of_body Bd
  have e0 : s₁.heap = h0 := by rw [← hh, Bd.state]; rfl
  have N0 := Fr.nil n0
  have pre0 : ∀ t, Steps p.tables e below (s₁.setTop (mkF m 0 #[vr a1, vi 1, .unset, .unset] [])) t → Steps p.tables e below (s₁.setTop (entryFrame m #[(.ref a1), (.int 1)] 4)) t := fun t k => castTop (ef_17_RI m a1 (1 : Int32)) k
  obtain ⟨T4, X4, e4, st4⟩ := getF X0 hx hZ hown (host := "") (Or.inl (W hw 66 rfl)) Via.refl e0 F_3 (g := (mkF m 1 #[vr a1, vi 1, .unset, .unset] [(.ref a1)])) rfl rfl (hb hby d17_1)
  obtain ⟨cl7, Ar7, q7, S7, M7, Hs7, G7⟩ := id (V_6.ext O0.2)
  obtain ⟨T8, X8, e8, st8⟩ := getF X4 hx hZ hown (host := "") (Or.inl (W hw 66 rfl)) Via.refl e4 F_3 (g := (mkF m 11 #[vr a1, vi 1, vi 0, .unset] [(.ref a1)])) rfl rfl (hb hby d17_11)
  obtain ⟨T10, X10, e10, st10⟩ := getS2 X8 hx hZ hown (host := "") (Or.inl (W hw 65 rfl)) Via.refl e8 (S_9.ext O0.2) (g := (mkF m 14 #[vr a1, vi 1, vi 0, .unset] [(.ref a2)])) rfl (hb hby d17_14)
  obtain ⟨_, T11, L11, X11, hQ11, st11⟩ := cS X10 hx hZ hown (W hw 92 rfl) (W hw 93 rfl) (W hw 94 rfl) (W hw 95 rfl) (by decide) (rm18 l Z a0 hw [] (10 : Int32) (1 : Int32) h0 n0 O0 ) e10 #[vr a1, vi 1, vi 0, .unset] [(.ref a1)] (by rw [hml]; rfl) (hb hby d17_49) pd_16 rfl (W := 1) (Nat.le_of_eq rfl) (by decide) (by decide) (by decide) (by decide)
  obtain ⟨rfl, Nq11, e11⟩ := hQ11
  have N11 := Fr.app N0 Nq11
  obtain ⟨T12, h12, k12, X12, e12, E12, A12, B12, O212, st12⟩ := newRE X11 hx hZ hown (W hw 96 rfl) (W hw 97 rfl) e11 (g := (mkF m 52 #[vr a1, vi 1, vi 0, .unset] [(.int 10), (.ref a1)])) rfl (hb hby d17_52) rfl (by decide) (cap := 10) (by decide) (by decide) (by decide) (by decide) (ad := "[Ljava/lang/Object;") (by decide)
  obtain ⟨b12, g12⟩ : ∃ z, z = h0.size := ⟨_, rfl⟩
  rw [← g12] at A12 B12 st12
  have ne13 := (own_ltn F_3.lt (own_eqle g12))
  have sz_b12 := Nat.le_trans (Keep.refl h0 [a1]).1 (own_eqle g12)
  have K12 := (Keep.refl h0 [a1]).ext E12
  have V12 : Arv Z h12 b12 k12 (.object "java/lang/Object") (10 : Int32) [] .null := Arv.new A12 (by decide)
  have f15 := (F_3.ext E12)
  have f16 := (E_14.ext E12)
  obtain ⟨T17, h17, X17, e17, W17, st17⟩ := putF X12 hx hZ hown (host := "") (Or.inl (W hw 66 rfl)) Via.refl e12 f15 f16 (Or.inl (W hw 67 rfl)) (W hw 45 rfl) (ty := (.array (.object "java/lang/Object"))) (by decide) rfl rfl (g := (mkF m 56 #[vr a1, vi 1, vi 0, .unset] [(.ref b12), (.ref a1), (.ref b12)])) rfl rfl (hb hby d17_56)
  have K17 := K12.wr W17 (Or.inl (List.mem_of_getElem? (i := 0) rfl))
  have N17 := Fr.snoc X17 N11 g_a1
  have Fw17 := f15.same W17
  have f20 := (B12.wr W17)
  have f21 := (V12.other W17 (Ne.symm ne13))
  have f22 := (f16.wr W17)
  have f23 := ((F_18.ext E12).other W17 (Or.inr (slot_ne (Or.inl (W hw 76 rfl)) (Or.inl (W hw 67 rfl)) (by decide) (t := .int) (t' := (.array (.object "java/lang/Object"))) (by decide) (by decide))))
  have f24 := ((F_19.ext E12).other W17 (Or.inr (slot_ne (Or.inl (W hw 64 rfl)) (Or.inl (W hw 67 rfl)) (by decide) (t := .int) (t' := (.array (.object "java/lang/Object"))) (by decide) (by decide))))
  obtain ⟨fs, hr, hrun, hended, hW, hsame⟩ := X17.leave (v := some (.ref b12)) (fun h => by rw [Bd.returns] at h; cases h)
  refine ⟨_, _, pre0 _ ?_, hrun, hended, _, _, rfl, ?_, ⟨_, rfl⟩, hW, hsame.mono (by decide) (by decide)⟩
  · show Steps p.tables e below (s₁.setTop (mkF m 0 #[vr a1, vi 1, .unset, .unset] [])) _
    refine XS.aloadN X0.here hx rfl (hb hby d17_0) rfl rfl ?_
    refine st4 _ ?_
    refine X4.arraylength hx (by rw [e4]; exact Ar7.1) (State.isArrayOf_alike hZ.alike Ar7.2.1) (g := (mkF m 4 #[vr a1, vi 1, .unset, .unset] [(.ref a2)])) rfl rfl (hb hby d17_4) _ ?_
    rw [len_of S7 M7]
    refine XS.istoreN X4.here hx rfl (hb hby d17_5) rfl (l' := #[vr a1, vi 1, vi 0, .unset]) rfl ?_
    refine XS.iloadN X4.here hx rfl (hb hby d17_6) rfl ?_
    refine XS.ifNo X4.here hx rfl (hb hby d17_7) rfl ((if0 _ _).trans (flt ((by decide) : ¬ ((0 : Int32) < (0 : Int32)))).2.2.1) ?_
    refine XS.aloadN X4.here hx rfl (hb hby d17_10) rfl rfl ?_
    refine st8 _ ?_
    refine st10 _ ?_
    show Steps p.tables e below (T10.setTop (mkF m 17 #[vr a1, vi 1, vi 0, .unset] [(.ref a2), (.ref a2)])) _
    refine Jvm.RoadKit.acmp (g := (mkF m 17 #[vr a1, vi 1, vi 0, .unset] [(.ref a2), (.ref a2)])) X10 hx rfl rfl rfl (pc0 := 17) (pc' := 45) (same := true) rfl (hb hby d17_17) rfl (decide_eq_true rfl) (by decide) (by decide) ?_
    refine XS.aloadN X10.here hx rfl (hb hby d17_45) rfl rfl ?_
    refine XS.bipush X10.here hx rfl (hb hby d17_46) ?_
    refine XS.iloadN X10.here hx rfl (hb hby d17_48) rfl ?_
    refine st11 _ ?_
    show Steps p.tables e below (T11.setTop (mkF m 52 #[vr a1, vi 1, vi 0, .unset] [(.int (own_maxI (10 : Int32) (1 : Int32))), (.ref a1)])) _
    rw [show (own_maxI (10 : Int32) (1 : Int32)) = (10 : Int32) from by decide]
    refine st12 _ ?_
    refine XS.dupX1 X12.here hx rfl (hb hby d17_55) rfl rfl rfl ?_
    refine st17 _ ?_
    jvm_step X17.here [X17.here.top, hx, (hb hby d17_59), X17.method', Bd.returns, Value.isRef, FieldType.isReference]
    first | (intro acts; rw [hr _ acts rfl rfl rfl]) | rw [hr _ _ rfl rfl rfl]
    exact Steps.refl _
  · show Qrm17 Z a1 a2 k5 h0 n0 _ T17.heap _
    rw [e17]
    exact ⟨b12, k12, rfl, N17, K17, sz_b12, f20, O212, f21, Fw17, f22, f23, f24⟩
theorem pd_17 : parseMethodDescriptor "(I)[Ljava/lang/Object;" = some ⟨[.int], some (.array (.object "java/lang/Object"))⟩ := by decide +kernel
theorem d16_10 : decode jdk_38_method_7_code 10 = .ok (.areturn, 1) := by decide +kernel
theorem ef_16_R (m : MethodId) (x0 : Addr) : entryFrame m #[(.ref x0)] 1 = mkF m 0 #[vr x0] [] := by first | (simp [entryFrame, mkF, argsToLocals, Value.category]; done) | rfl
def Qrm16 (Z : State) (a1 : Addr) (a4 : Addr) (k6 : ClassId) (h0 : Heap) (n0 : Nat) (v : Option Value) (h : Heap) (L : List Loc) : Prop := ∃ b12 : Addr, ∃ k13 : ClassId, v = some (.ref b12) ∧ Fr n0 L ∧ Keep h0 h [a1] ∧ h0.size ≤ b12 ∧ Exa Z h b12 "[Ljava/lang/Object;" ∧ Ovr Z k13 "java/lang/Object" ∧ Arv Z h b12 k13 (.object "java/lang/Object") (10 : Int32) [] .null ∧ Exa Z h a1 "java/util/ArrayList" ∧ Fld Z h a1 "java/util/ArrayList" "elementData" "[Ljava/lang/Object;" (.ref b12) ∧ Fld Z h a1 "java/util/ArrayList" "size" "I" (.int 0) ∧ Fld Z h a1 "java/util/AbstractList" "modCount" "I" (.int 1)
set_option maxRecDepth 65536 in
set_option maxHeartbeats 40000000 in
theorem rm16 (l : Launch) (Z : State) (a0 : Array Value) (hw : ∀ d ∈ tables_1, d.before a0 Z = true) (ws : List Jvm.Cond) (a1 : Addr) (a4 : Addr) (k6 : ClassId) (h0 : Heap) (n0 : Nat) (O0 : Old Z n0 h0) (F_2 : Fld Z h0 a1 "java/util/ArrayList" "size" "I" (.int 0)) (F_5 : Fld Z h0 a1 "java/util/ArrayList" "elementData" "[Ljava/lang/Object;" (.ref a4)) (V_7 : Arv Z Z.heap a4 k6 (.object "java/lang/Object") (0 : Int32) [] .null) (S_8 : Sta Z Z.heap "java/util/ArrayList" "DEFAULTCAPACITY_EMPTY_ELEMENTDATA" "[Ljava/lang/Object;" (.ref a4)) (E_9 : Exa Z h0 a1 "java/util/ArrayList") (g_a1 : n0 ≤ a1) (F_10 : Fld Z h0 a1 "java/util/AbstractList" "modCount" "I" (.int 1)) :
    MF l Z h0 (⟨"java/util/ArrayList", "grow", "()[Ljava/lang/Object;"⟩ : MethodName) jdk_38_method_7_code 1 (some (.array (.object "java/lang/Object"))) ws (⟨2, 1, 10, 29⟩ : Room) #[(.ref a1)] (Qrm16 Z a1 a4 k6 h0 n0) := by
  refine MetFree.of_bodySF (plainFor_of_name pn_15) hisR ?_
  intro p e s m args below meth c s₁ Bd hml0 hP hK
  obtain ⟨rfl, hZ, hh⟩ := hP
  have hx := Bd.exec
  have hby := Bd.bytes
  have hml : c.maxLocals = 1 := hml0
  have hown : s.vm.findClass "java/util/ArrayList" = some m.cls := findClass_of_methodNamed Bd.named
  have X0 : Stand p l e (⟨2, 1, 10, 29⟩ : Room) s m #[(.ref a1)] below meth c s₁ [] 0 0 := Stand.of_body Bd
  have e0 : s₁.heap = h0 := by rw [← hh, Bd.state]; rfl
  have N0 := Fr.nil n0
  have pre0 : ∀ t, Steps p.tables e below (s₁.setTop (mkF m 0 #[vr a1] [])) t → Steps p.tables e below (s₁.setTop (entryFrame m #[(.ref a1)] 1)) t := fun t k => castTop (ef_16_R m a1) k
  obtain ⟨T3, X3, e3, st3⟩ := getF X0 hx hZ hown (host := "") (Or.inl (W hw 75 rfl)) Via.refl e0 F_2 (g := (mkF m 2 #[vr a1] [(.ref a1), (.ref a1)])) rfl rfl (hb hby d16_2)
  obtain ⟨cq11, q11, q11'⟩ := E_9.cell
  obtain ⟨_, _, ⟨T11, L11, k11, n11⟩, -, X11, ⟨Lc11, hQ11, l11, y11, z11⟩, st11⟩ := X3.privateBack hx (y := (⟨"java/util/ArrayList", "grow", "(I)[Ljava/lang/Object;"⟩ : MethodName)) hown (mvT hZ (W hw 87 rfl)) (mvT hZ (W hw 88 rfl)) (mvT hZ (W hw 90 rfl)) (Cond.privateMethod_at (mvP hZ (W hw 89 rfl) (args := #[]))) (mvT hZ (W hw 91 rfl)) (by decide) (backOf (W := 0) (rm17 l Z a0 hw [] a1 a4 k6 h0 n0 O0 F_5 V_7 S_8 E_9 g_a1 F_2 F_10) hZ (W hw 91 rfl) (W hw 46 rfl) (by decide) (by decide)) (g := (mkF m 7 #[vr a1] [(.int 1), (.ref a1)])) rfl (by rw [hml]; rfl) (Steps.refl _) (a := a1) (by rw [e3]; exact q11) q11' (argsL := [(.int 1)]) (rest := []) (lenOf pd_17 rfl) rfl (by show 2 * 0 + _ ≤ _; exact Nat.le_of_eq rfl) (hb hby d16_7) (fun _ _ => ⟨rfl, e3, (by decide : 0 + 1 ≤ _), (by decide : 0 + 10 ≤ _)⟩)
  dsimp only [Pt.U, Pt.locs, Pt.cells, Pt.slots] at X11 l11 y11 z11 st11 hQ11
  subst l11 y11 z11
  obtain ⟨b12, k13, rfl, Nq11, K11, sq11_b12, P11_0, P11_1, P11_2, P11_3, P11_4, P11_5, P11_6⟩ := hQ11
  have N11 := Fr.app N0 Nq11
  have sz_b12 := Nat.le_trans (Keep.refl h0 [a1]).1 sq11_b12
  have KK11 := Keep.trans (h := h0) (Keep.refl h0 [a1]) K11 (allS (Or.inl (List.mem_of_getElem? (i := 0) rfl)) all0)
  obtain ⟨fs, hr, hrun, hended, hW, hsame⟩ := X11.leave (v := some (.ref b12)) (fun h => by rw [Bd.returns] at h; cases h)
  refine ⟨_, _, pre0 _ ?_, hrun, hended, _, _, rfl, ?_, ⟨_, rfl⟩, hW, hsame.mono (by decide) (by decide)⟩
  · show Steps p.tables e below (s₁.setTop (mkF m 0 #[vr a1] [])) _
    refine XS.aloadN X0.here hx rfl (hb hby d16_0) rfl rfl ?_
    refine XS.aloadN X0.here hx rfl (hb hby d16_1) rfl rfl ?_
    refine st3 _ ?_
    refine XS.iconst X3.here hx rfl (hb hby d16_5) ?_
    refine XS.iadd X3.here hx rfl (hb hby d16_6) rfl ?_
    show Steps p.tables e below (T3.setTop (mkF m 7 #[vr a1] [(.int ((0 : Int32) + (1 : Int32))), (.ref a1)])) _
    rw [show ((0 : Int32) + (1 : Int32)) = (1 : Int32) from by decide]
    refine st11.trans ?_
    jvm_step X11.here [X11.here.top, hx, (hb hby d16_10), X11.method', Bd.returns, Value.isRef, FieldType.isReference]
    first | (intro acts; rw [hr _ acts rfl rfl rfl]) | rw [hr _ _ rfl rfl rfl]
    exact Steps.refl _
  · show Qrm16 Z a1 a4 k6 h0 n0 _ T11.heap _
    exact ⟨b12, k13, rfl, N11, KK11, sz_b12, P11_0, P11_1, P11_2, P11_4, P11_3, P11_5, P11_6⟩
theorem pd_18 : parseMethodDescriptor "()[Ljava/lang/Object;" = some ⟨[], some (.array (.object "java/lang/Object"))⟩ := by decide +kernel
theorem d15_10 : decode jdk_38_method_24_code 10 = .ok (.astore_n 2, 1) := by decide +kernel
theorem d15_11 : decode jdk_38_method_24_code 11 = .ok (.aload_n 2, 1) := by decide +kernel
theorem d15_12 : decode jdk_38_method_24_code 12 = .ok (.iload_n 3, 1) := by decide +kernel
theorem d15_13 : decode jdk_38_method_24_code 13 = .ok (.aload_n 1, 1) := by decide +kernel
theorem d15_14 : decode jdk_38_method_24_code 14 = .ok (.aastore, 1) := by decide +kernel
theorem d15_15 : decode jdk_38_method_24_code 15 = .ok (.aload_n 0, 1) := by decide +kernel
theorem d15_16 : decode jdk_38_method_24_code 16 = .ok (.iload_n 3, 1) := by decide +kernel
theorem d15_17 : decode jdk_38_method_24_code 17 = .ok (.iconst 1, 1) := by decide +kernel
theorem d15_18 : decode jdk_38_method_24_code 18 = .ok (.iadd, 1) := by decide +kernel
theorem d15_19 : decode jdk_38_method_24_code 19 = .ok (.putfield 48, 3) := by decide +kernel
theorem d15_22 : decode jdk_38_method_24_code 22 = .ok (.return_, 1) := by decide +kernel
theorem ef_15_RRRI (m : MethodId) (x0 : Addr) (x1 : Addr) (x2 : Addr) (x3 : Int32) : entryFrame m #[(.ref x0), (.ref x1), (.ref x2), (.int x3)] 4 = mkF m 0 #[vr x0, vr x1, vr x2, vi x3] [] := by first | (simp [entryFrame, mkF, argsToLocals, Value.category]; done) | rfl
def Qrm15 (Z : State) (a1 : Addr) (a2 : Addr) (a3 : Addr) (k4 : ClassId) (h0 : Heap) (n0 : Nat) (v : Option Value) (h : Heap) (L : List Loc) : Prop := ∃ b13 : Addr, ∃ k14 : ClassId, v = none ∧ Fr n0 L ∧ Keep h0 h [a1] ∧ h0.size ≤ b13 ∧ Exa Z h a1 "java/util/ArrayList" ∧ Fld Z h a1 "java/util/ArrayList" "elementData" "[Ljava/lang/Object;" (.ref b13) ∧ Fld Z h a1 "java/util/ArrayList" "size" "I" (.int 1) ∧ Fld Z h a1 "java/util/AbstractList" "modCount" "I" (.int 1) ∧ Exa Z h b13 "[Ljava/lang/Object;" ∧ Ovr Z k14 "java/lang/Object" ∧ Arv Z h b13 k14 (.object "java/lang/Object") (10 : Int32) [(.ref a2)] .null
set_option maxRecDepth 65536 in
set_option maxHeartbeats 40000000 in
theorem rm15 (l : Launch) (Z : State) (a0 : Array Value) (hw : ∀ d ∈ tables_1, d.before a0 Z = true) (ws : List Jvm.Cond) (a1 : Addr) (a2 : Addr) (a3 : Addr) (k4 : ClassId) (h0 : Heap) (n0 : Nat) (O0 : Old Z n0 h0) (V_5 : Arv Z Z.heap a3 k4 (.object "java/lang/Object") (0 : Int32) [] .null) (F_7 : Fld Z h0 a1 "java/util/ArrayList" "size" "I" (.int 0)) (F_8 : Fld Z h0 a1 "java/util/ArrayList" "elementData" "[Ljava/lang/Object;" (.ref a3)) (S_9 : Sta Z Z.heap "java/util/ArrayList" "DEFAULTCAPACITY_EMPTY_ELEMENTDATA" "[Ljava/lang/Object;" (.ref a3)) (E_10 : Exa Z h0 a1 "java/util/ArrayList") (g_a1 : n0 ≤ a1) (F_11 : Fld Z h0 a1 "java/util/AbstractList" "modCount" "I" (.int 1)) (E_18 : Exa Z h0 a2 "java/lang/String") :
    MF l Z h0 (⟨"java/util/ArrayList", "add", "(Ljava/lang/Object;[Ljava/lang/Object;I)V"⟩ : MethodName) jdk_38_method_24_code 4 none ws (⟨3, 1, 10, 41⟩ : Room) #[(.ref a1), (.ref a2), (.ref a3), (.int 0)] (Qrm15 Z a1 a2 a3 k4 h0 n0) := by
  refine MetFree.of_bodySF (plainFor_of_name pn_15) hisR ?_
  intro p e s m args below meth c s₁ Bd hml0 hP hK
  obtain ⟨rfl, hZ, hh⟩ := hP
  have hx := Bd.exec
  have hby := Bd.bytes
  have hml : c.maxLocals = 4 := hml0
  have hown : s.vm.findClass "java/util/ArrayList" = some m.cls := findClass_of_methodNamed Bd.named
  have X0 : Stand p l e (⟨3, 1, 10, 41⟩ : Room) s m #[(.ref a1), (.ref a2), (.ref a3), (.int 0)] below meth c s₁ [] 0 0 := Stand.of_body Bd
  have e0 : s₁.heap = h0 := by rw [← hh, Bd.state]; rfl
  have N0 := Fr.nil n0
  have pre0 : ∀ t, Steps p.tables e below (s₁.setTop (mkF m 0 #[vr a1, vr a2, vr a3, vi 0] [])) t → Steps p.tables e below (s₁.setTop (entryFrame m #[(.ref a1), (.ref a2), (.ref a3), (.int 0)] 4)) t := fun t k => castTop (ef_15_RRRI m a1 a2 a3 (0 : Int32)) k
  obtain ⟨cl6, Ar6, q6, S6, M6, Hs6, G6⟩ := id (V_5.ext O0.2)
  obtain ⟨cq12, q12, q12'⟩ := E_10.cell
  obtain ⟨_, _, ⟨T12, L12, k12, n12⟩, -, X12, ⟨Lc12, hQ12, l12, y12, z12⟩, st12⟩ := X0.privateBack hx (y := (⟨"java/util/ArrayList", "grow", "()[Ljava/lang/Object;"⟩ : MethodName)) hown (mvT hZ (W hw 82 rfl)) (mvT hZ (W hw 83 rfl)) (mvT hZ (W hw 85 rfl)) (Cond.privateMethod_at (mvP hZ (W hw 84 rfl) (args := #[]))) (mvT hZ (W hw 86 rfl)) (by decide) (backOf (W := 0) (rm16 l Z a0 hw [] a1 a3 k4 h0 n0 O0 F_7 F_8 V_5 S_9 E_10 g_a1 F_11) hZ (W hw 86 rfl) (W hw 46 rfl) (by decide) (by decide)) (g := (mkF m 7 #[vr a1, vr a2, vr a3, vi 0] [(.ref a1)])) rfl (by rw [hml]; rfl) (Steps.refl _) (a := a1) (by rw [e0]; exact q12) q12' (argsL := []) (rest := []) (lenOf pd_18 rfl) rfl (by show 2 * 0 + _ ≤ _; exact Nat.le_of_eq rfl) (hb hby d15_7) (fun _ _ => ⟨rfl, e0, (by decide : 0 + 1 ≤ _), (by decide : 0 + 10 ≤ _)⟩)
  dsimp only [Pt.U, Pt.locs, Pt.cells, Pt.slots] at X12 l12 y12 z12 st12 hQ12
  subst l12 y12 z12
  obtain ⟨b13, k14, rfl, Nq12, K12, sq12_b13, P12_0, P12_1, P12_2, P12_3, P12_4, P12_5, P12_6⟩ := hQ12
  have N12 := Fr.app N0 Nq12
  have ne15 := (own_ltn E_10.lt sq12_b13)
  have g_b13 := own_born O0 sq12_b13
  have sz_b13 := Nat.le_trans (Keep.refl h0 [a1]).1 sq12_b13
  have KK12 := Keep.trans (h := h0) (Keep.refl h0 [a1]) K12 (allS (Or.inl (List.mem_of_getElem? (i := 0) rfl)) all0)
  have V16 : Arv Z T12.heap b13 k14 (.object "java/lang/Object") (10 : Int32) [.null] .null := P12_2.pad (pad_rep [] .null 1)
  obtain ⟨cl17, Ar17, q17, S17, M17, Hs17, G17⟩ := id V16
  have hin17 : ¬ ((0 : Int32) < 0 ∨ cl17.slots.size ≤ ((0 : Int32)).toNatClampNeg) := inb_of S17 ⟨by decide, by decide⟩
  have f19 := (E_18.keep K12)
  obtain ⟨T20, h20, X20, e20, W20, st20⟩ := stR X12 hx hZ rfl Ar17 (j := (0 : Int32)) hin17 rfl (Sto.ofV Ar17 q17 P12_1 (Ins.of_exa f19 (W hw 98 rfl))) (g := (mkF m 14 #[vr a1, vr a2, vr b13, vi 0] [(.ref a2), (.int 0), (.ref b13)])) rfl rfl (hb hby d15_14)
  have K20 := KK12.wr W20 (Or.inr sz_b13)
  have N20 := Fr.snoc X20 N12 g_b13
  have Vw20 : Arv Z h20 b13 k14 (.object "java/lang/Object") (10 : Int32) [(.ref a2)] .null := Arv.set Ar17 q17 S17 M17 Hs17 G17 rfl W20 0 rfl (Nat.le_of_ble_eq_true rfl)
  have f21 := (P12_5.other W20 (Or.inl ne15))
  have f22 := (P12_3.wr W20)
  obtain ⟨T23, h23, X23, e23, W23, st23⟩ := putF X20 hx hZ hown (host := "") (Or.inl (W hw 75 rfl)) Via.refl e20 f21 f22 (Or.inl (W hw 76 rfl)) (W hw 45 rfl) (ty := .int) (by decide) rfl rfl (g := (mkF m 19 #[vr a1, vr a2, vr b13, vi 0] [(.int 1), (.ref a1)])) rfl rfl (hb hby d15_19)
  have K23 := K20.wr W23 (Or.inl (List.mem_of_getElem? (i := 0) rfl))
  have N23 := Fr.snoc X23 N20 g_a1
  have Fw23 := f21.same W23
  have f24 := (f22.wr W23)
  have f25 := ((P12_4.other W20 (Or.inl ne15)).other W23 (Or.inr (slot_ne (Or.inl (W hw 67 rfl)) (Or.inl (W hw 76 rfl)) (by decide) (t := (.array (.object "java/lang/Object"))) (t' := .int) (by decide) (by decide))))
  have f26 := ((P12_6.other W20 (Or.inl ne15)).other W23 (Or.inr (slot_ne (Or.inl (W hw 64 rfl)) (Or.inl (W hw 76 rfl)) (by decide) (t := .int) (t' := .int) (by decide) (by decide))))
  have f27 := ((P12_0.wr W20).wr W23)
  have f28 := (Vw20.other W23 (Ne.symm ne15))
  obtain ⟨fs, hr, hrun, hended, hW, hsame⟩ := X23.leave (v := none) (fun _ => rfl)
  refine ⟨_, _, pre0 _ ?_, hrun, hended, _, _, rfl, ?_, ⟨_, rfl⟩, hW, hsame.mono (by decide) (by decide)⟩
  · show Steps p.tables e below (s₁.setTop (mkF m 0 #[vr a1, vr a2, vr a3, vi 0] [])) _
    refine XS.iloadN X0.here hx rfl (hb hby d15_0) rfl ?_
    refine XS.aloadN X0.here hx rfl (hb hby d15_1) rfl rfl ?_
    refine X0.arraylength hx (by rw [e0]; exact Ar6.1) (State.isArrayOf_alike hZ.alike Ar6.2.1) (g := (mkF m 2 #[vr a1, vr a2, vr a3, vi 0] [(.ref a3), (.int 0)])) rfl rfl (hb hby d15_2) _ ?_
    rw [len_of S6 M6]
    refine XS.icmpNo X0.here hx rfl (hb hby d15_3) rfl (teq ((by decide) : (0 : Int32) = (0 : Int32))).2 ?_
    refine XS.aloadN X0.here hx rfl (hb hby d15_6) rfl rfl ?_
    refine st12.trans ?_
    refine XS.astoreN X12.here hx rfl (hb hby d15_10) rfl rfl (l' := #[vr a1, vr a2, vr b13, vi 0]) rfl ?_
    refine XS.aloadN X12.here hx rfl (hb hby d15_11) rfl rfl ?_
    refine XS.iloadN X12.here hx rfl (hb hby d15_12) rfl ?_
    show Steps p.tables e below (T12.setTop (mkF m 13 #[vr a1, vr a2, vr b13, vi 0] [(.int 0), (.ref b13)])) _
    refine XS.aloadN X12.here hx rfl (hb hby d15_13) rfl rfl ?_
    refine st20 _ ?_
    refine XS.aloadN X20.here hx rfl (hb hby d15_15) rfl rfl ?_
    refine XS.iloadN X20.here hx rfl (hb hby d15_16) rfl ?_
    refine XS.iconst X20.here hx rfl (hb hby d15_17) ?_
    refine XS.iadd X20.here hx rfl (hb hby d15_18) rfl ?_
    show Steps p.tables e below (T20.setTop (mkF m 19 #[vr a1, vr a2, vr b13, vi 0] [(.int ((0 : Int32) + (1 : Int32))), (.ref a1)])) _
    rw [show ((0 : Int32) + (1 : Int32)) = (1 : Int32) from by decide]
    refine st23 _ ?_
    exact X23.returnOut hx Bd.returns (hb hby d15_22) hr
  · show Qrm15 Z a1 a2 a3 k4 h0 n0 _ T23.heap _
    rw [e23]
    exact ⟨b13, k14, rfl, N23, K23, sz_b13, f24, f25, Fw23, f26, f27, P12_1, f28⟩
theorem pd_19 : parseMethodDescriptor "(Ljava/lang/Object;[Ljava/lang/Object;I)V" = some ⟨[(.object "java/lang/Object"), (.array (.object "java/lang/Object")), .int], none⟩ := by decide +kernel
theorem d14_23 : decode jdk_38_method_25_code 23 = .ok (.iconst 1, 1) := by decide +kernel
theorem d14_24 : decode jdk_38_method_25_code 24 = .ok (.ireturn, 1) := by decide +kernel
theorem ef_14_RR (m : MethodId) (x0 : Addr) (x1 : Addr) : entryFrame m #[(.ref x0), (.ref x1)] 2 = mkF m 0 #[vr x0, vr x1] [] := by first | (simp [entryFrame, mkF, argsToLocals, Value.category]; done) | rfl
def Qrm14 (Z : State) (a1 : Addr) (a2 : Addr) (a7 : Addr) (k14 : ClassId) (h0 : Heap) (n0 : Nat) (v : Option Value) (h : Heap) (L : List Loc) : Prop := ∃ b21 : Addr, ∃ k22 : ClassId, v = some (.int 1) ∧ Fr n0 L ∧ Keep h0 h [a1] ∧ h0.size ≤ b21 ∧ Exa Z h a1 "java/util/ArrayList" ∧ Fld Z h a1 "java/util/ArrayList" "elementData" "[Ljava/lang/Object;" (.ref b21) ∧ Fld Z h a1 "java/util/ArrayList" "size" "I" (.int 1) ∧ Fld Z h a1 "java/util/AbstractList" "modCount" "I" (.int 1) ∧ Exa Z h b21 "[Ljava/lang/Object;" ∧ Ovr Z k22 "java/lang/Object" ∧ Arv Z h b21 k22 (.object "java/lang/Object") (10 : Int32) [(.ref a2)] .null
set_option maxRecDepth 65536 in
set_option maxHeartbeats 40000000 in
theorem rm14 (l : Launch) (Z : State) (a0 : Array Value) (hw : ∀ d ∈ tables_1, d.before a0 Z = true) (ws : List Jvm.Cond) (a1 : Addr) (a2 : Addr) (a7 : Addr) (k14 : ClassId) (h0 : Heap) (n0 : Nat) (O0 : Old Z n0 h0) (F_3 : Fld Z h0 a1 "java/util/AbstractList" "modCount" "I" (.int 0)) (E_5 : Exa Z h0 a1 "java/util/ArrayList") (g_a1 : n0 ≤ a1) (F_8 : Fld Z h0 a1 "java/util/ArrayList" "elementData" "[Ljava/lang/Object;" (.ref a7)) (F_9 : Fld Z h0 a1 "java/util/ArrayList" "size" "I" (.int 0)) (V_15 : Arv Z Z.heap a7 k14 (.object "java/lang/Object") (0 : Int32) [] .null) (S_16 : Sta Z Z.heap "java/util/ArrayList" "DEFAULTCAPACITY_EMPTY_ELEMENTDATA" "[Ljava/lang/Object;" (.ref a7)) (E_17 : Exa Z h0 a2 "java/lang/String") :
    MF l Z h0 (⟨"java/util/ArrayList", "add", "(Ljava/lang/Object;)Z"⟩ : MethodName) jdk_38_method_25_code 2 (some .boolean) ws (⟨4, 1, 10, 56⟩ : Room) #[(.ref a1), (.ref a2)] (Qrm14 Z a1 a2 a7 k14 h0 n0) := by
  refine MetFree.of_bodySF (plainFor_of_name pn_15) hisR ?_
  intro p e s m args below meth c s₁ Bd hml0 hP hK
  obtain ⟨rfl, hZ, hh⟩ := hP
  have hx := Bd.exec
  have hby := Bd.bytes
  have hml : c.maxLocals = 2 := hml0
  have hown : s.vm.findClass "java/util/ArrayList" = some m.cls := findClass_of_methodNamed Bd.named
  have X0 : Stand p l e (⟨4, 1, 10, 56⟩ : Room) s m #[(.ref a1), (.ref a2)] below meth c s₁ [] 0 0 := Stand.of_body Bd
  have e0 : s₁.heap = h0 := by rw [← hh, Bd.state]; rfl
  have N0 := Fr.nil n0
  have pre0 : ∀ t, Steps p.tables e below (s₁.setTop (mkF m 0 #[vr a1, vr a2] [])) t → Steps p.tables e below (s₁.setTop (entryFrame m #[(.ref a1), (.ref a2)] 2)) t := fun t k => castTop (ef_14_RR m a1 a2) k
  obtain ⟨T4, X4, e4, st4⟩ := getF X0 hx hZ hown (host := "") (Or.inl (W hw 73 rfl)) (Via.of (W hw 74 rfl)) e0 F_3 (g := (mkF m 2 #[vr a1, vr a2] [(.ref a1), (.ref a1)])) rfl rfl (hb hby d14_2)
  obtain ⟨T6, h6, X6, e6, W6, st6⟩ := putF X4 hx hZ hown (host := "") (Or.inl (W hw 73 rfl)) (Via.of (W hw 74 rfl)) e4 F_3 E_5 (Or.inl (W hw 64 rfl)) (W hw 45 rfl) (ty := .int) (by decide) rfl rfl (g := (mkF m 7 #[vr a1, vr a2] [(.int 1), (.ref a1)])) rfl rfl (hb hby d14_7)
  have K6 := (Keep.refl h0 [a1]).wr W6 (Or.inl (List.mem_of_getElem? (i := 0) rfl))
  have O6 := O0.wr W6 g_a1
  have N6 := Fr.snoc X6 N0 g_a1
  have Fw6 := F_3.same W6
  have f10 := (F_8.other W6 (Or.inr (slot_ne (Or.inl (W hw 67 rfl)) (Or.inl (W hw 64 rfl)) (by decide) (t := (.array (.object "java/lang/Object"))) (t' := .int) (by decide) (by decide))))
  obtain ⟨T11, X11, e11, st11⟩ := getF X6 hx hZ hown (host := "") (Or.inl (W hw 66 rfl)) Via.refl e6 f10 (g := (mkF m 13 #[vr a1, vr a2] [(.ref a1), (.ref a2), (.ref a1)])) rfl rfl (hb hby d14_13)
  have f12 := (F_9.other W6 (Or.inr (slot_ne (Or.inl (W hw 76 rfl)) (Or.inl (W hw 64 rfl)) (by decide) (t := .int) (t' := .int) (by decide) (by decide))))
  obtain ⟨T13, X13, e13, st13⟩ := getF X11 hx hZ hown (host := "") (Or.inl (W hw 75 rfl)) Via.refl e11 f12 (g := (mkF m 17 #[vr a1, vr a2] [(.ref a1), (.ref a7), (.ref a2), (.ref a1)])) rfl rfl (hb hby d14_17)
  have f18 := (E_5.wr W6)
  have f19 := (E_17.wr W6)
  obtain ⟨cq20, q20, q20'⟩ := f18.cell
  obtain ⟨_, _, ⟨T20, L20, k20, n20⟩, -, X20, ⟨Lc20, hQ20, l20, y20, z20⟩, st20⟩ := X13.privateBack hx (y := (⟨"java/util/ArrayList", "add", "(Ljava/lang/Object;[Ljava/lang/Object;I)V"⟩ : MethodName)) hown (mvT hZ (W hw 77 rfl)) (mvT hZ (W hw 78 rfl)) (mvT hZ (W hw 80 rfl)) (Cond.privateMethod_at (mvP hZ (W hw 79 rfl) (args := #[]))) (mvT hZ (W hw 81 rfl)) (by decide) (backOf (W := 0) (rm15 l Z a0 hw [] a1 a2 a7 k14 h6 n0 O6 V_15 f12 f10 S_16 f18 g_a1 Fw6 f19) hZ (W hw 81 rfl) (W hw 46 rfl) (by decide) (by decide)) (g := (mkF m 20 #[vr a1, vr a2] [(.int 0), (.ref a7), (.ref a2), (.ref a1)])) rfl (by rw [hml]; rfl) (Steps.refl _) (a := a1) (by rw [e13]; exact q20) q20' (argsL := [(.ref a2), (.ref a7), (.int 0)]) (rest := []) (lenOf pd_19 rfl) rfl (by show 2 * 0 + _ ≤ _; exact Nat.le_of_eq rfl) (hb hby d14_20) (fun _ _ => ⟨rfl, e13, (by decide : 0 + 1 ≤ _), (by decide : 0 + 10 ≤ _)⟩)
  dsimp only [Pt.U, Pt.locs, Pt.cells, Pt.slots] at X20 l20 y20 z20 st20 hQ20
  subst l20 y20 z20
  obtain ⟨b21, k22, rfl, Nq20, K20, sq20_b21, P20_0, P20_1, P20_2, P20_3, P20_4, P20_5, P20_6⟩ := hQ20
  have N20 := Fr.app N6 Nq20
  have sz_b21 := Nat.le_trans K6.1 sq20_b21
  have KK20 := Keep.trans (h := h6) K6 K20 (allS (Or.inl (List.mem_of_getElem? (i := 0) rfl)) all0)
  obtain ⟨fs, hr, hrun, hended, hW, hsame⟩ := X20.leave (v := some (.int 1)) (fun h => by rw [Bd.returns] at h; cases h)
  refine ⟨_, _, pre0 _ ?_, hrun, hended, _, _, rfl, ?_, ⟨_, rfl⟩, hW, hsame.mono (by decide) (by decide)⟩
  · show Steps p.tables e below (s₁.setTop (mkF m 0 #[vr a1, vr a2] [])) _
    refine XS.aloadN X0.here hx rfl (hb hby d14_0) rfl rfl ?_
    refine XS.dup X0.here hx rfl (hb hby d14_1) rfl rfl ?_
    refine st4 _ ?_
    refine XS.iconst X4.here hx rfl (hb hby d14_5) ?_
    refine XS.iadd X4.here hx rfl (hb hby d14_6) rfl ?_
    show Steps p.tables e below (T4.setTop (mkF m 7 #[vr a1, vr a2] [(.int ((0 : Int32) + (1 : Int32))), (.ref a1)])) _
    rw [show ((0 : Int32) + (1 : Int32)) = (1 : Int32) from by decide]
    refine st6 _ ?_
    refine XS.aloadN X6.here hx rfl (hb hby d14_10) rfl rfl ?_
    refine XS.aloadN X6.here hx rfl (hb hby d14_11) rfl rfl ?_
    refine XS.aloadN X6.here hx rfl (hb hby d14_12) rfl rfl ?_
    refine st11 _ ?_
    refine XS.aloadN X11.here hx rfl (hb hby d14_16) rfl rfl ?_
    refine st13 _ ?_
    refine st20.trans ?_
    refine XS.iconst X20.here hx rfl (hb hby d14_23) ?_
    show Steps p.tables e below (T20.setTop (mkF m 24 #[vr a1, vr a2] [(.int 1)])) _
    exact retN X20 hx (t := .boolean) Bd.returns (by simp) (hb hby d14_24) hr
  · show Qrm14 Z a1 a2 a7 k14 h0 n0 _ T20.heap _
    exact ⟨b21, k22, rfl, N20, KK20, sz_b21, P20_0, P20_1, P20_2, P20_3, P20_4, P20_5, P20_6⟩
theorem pd_20 : parseMethodDescriptor "(Ljava/lang/Object;)Z" = some ⟨[(.object "java/lang/Object")], some .boolean⟩ := by decide +kernel
set_option maxRecDepth 65536 in
set_option maxHeartbeats 40000000 in
theorem sg0_189_213 {p : Program} {l : Launch} {e : Env} {R : Room} {s : State} {m : MethodId} {args : Array Value} {below : List Frame} {meth : Method} {c : Code} {T0 : State} {locs : List Loc} {cells slots : Nat} {Z : State} {a0 : Array Value} (hw : ∀ d ∈ tables_1, d.before a0 Z = true) (p1 : Int32) (p2 : Int32) (p3 : Int32) (p4 : Int32) (p5 : Int32) (p6 : Int32) (p7 : Int32) (p8 : Int32) (p9 : Int32) (a10 : Addr) (p11 : Int32) (a22 : Addr) (k25 : ClassId) (h0 : Heap) (n0 : Nat) (O0 : Old Z n0 h0) (S_12 : Sta Z Z.heap "java/lang/String" "COMPACT_STRINGS" "Z" (.int p11)) (hc13 : ¬ (p11 = (0 : Int32))) (hc14 : ¬ ((255 : Int32) < p7)) (S_23 : Sta Z Z.heap "java/util/ArrayList" "DEFAULTCAPACITY_EMPTY_ELEMENTDATA" "[Ljava/lang/Object;" (.ref a22)) (V_26 : Arv Z Z.heap a22 k25 (.object "java/lang/Object") (0 : Int32) [] .null) (E_27 : Exa Z h0 a10 "java/lang/String")
    (X0 : Stand p l e R s m args below meth c T0 locs cells slots) (hx : p.tables.exec = Jvm.exec) (hZ : Z.Warmed39 s.vm) (hby : c.code = code) (hml : c.maxLocals = 18) (hown : s.vm.findClass "com/example/runqueue/runqueue/ArgumentsFlagPinLaw" = some m.cls) (e0 : T0.heap = h0) (N0 : Fr n0 locs) (hrc : cells + 4 ≤ R.cells) (hrs : slots + 18 ≤ R.slots) (hrf : 5 ≤ R.frames) (hrl : 69 ≤ R.locals) :
    ∃ (T' : State) (L' : List Loc), Stand p l e R s m args below meth c T' L' (cells + 4) (slots + 18) ∧ Fr n0 L' ∧ (∃ b16 : Addr, ∃ b19 : Addr, ∃ b17 : Addr, ∃ b30 : Addr, ∃ k18 : ClassId, ∃ k31 : ClassId, Keep h0 T'.heap [] ∧ h0.size ≤ b16 ∧ h0.size ≤ b19 ∧ h0.size ≤ b17 ∧ h0.size ≤ b30 ∧ b16 ≠ b19 ∧ b16 ≠ b17 ∧ b16 ≠ b30 ∧ b19 ≠ b17 ∧ b19 ≠ b30 ∧ b17 ≠ b30 ∧ Exa Z T'.heap b16 "java/lang/String" ∧ Fld Z T'.heap b16 "java/lang/String" "value" "[B" (.ref b17) ∧ Fld Z T'.heap b16 "java/lang/String" "coder" "B" (.int 0) ∧ Exa Z T'.heap b19 "java/util/ArrayList" ∧ Fld Z T'.heap b19 "java/util/ArrayList" "elementData" "[Ljava/lang/Object;" (.ref b30) ∧ Fld Z T'.heap b19 "java/util/ArrayList" "size" "I" (.int 1) ∧ Fld Z T'.heap b19 "java/util/AbstractList" "modCount" "I" (.int 1) ∧ Exa Z T'.heap b17 "[B" ∧ Arv Z T'.heap b17 k18 .byte (1 : Int32) [(.int (nar .byte (p7.toInt8.toInt32)))] (.int 0) ∧ Exa Z T'.heap b30 "[Ljava/lang/Object;" ∧ Ovr Z k31 "java/lang/Object" ∧ Arv Z T'.heap b30 k31 (.object "java/lang/Object") (10 : Int32) [(.ref a10)] .null ∧ (∀ t, Steps p.tables e below (T'.setTop (mkF m 213 #[vi p1, vi p2, vi p3, vi p4, vi p5, vi p6, vi p7, vi p8, vi p9, vr a10, vr b16, vr b19, .unset, .unset, .unset, .unset, .unset, .unset] [])) t → Steps p.tables e below (T0.setTop (mkF m 189 #[vi p1, vi p2, vi p3, vi p4, vi p5, vi p6, vi p7, vi p8, vi p9, vr a10, .unset, .unset, .unset, .unset, .unset, .unset, .unset, .unset] [])) t)) := by
  obtain ⟨_, T15, L15, X15, hQ15, st15⟩ := cS X0 hx hZ hown (W hw 30 rfl) (W hw 31 rfl) (W hw 2 rfl) (W hw 32 rfl) (by decide) (rm7 l Z a0 hw [] p7 p11 h0 n0 O0 S_12 hc13 hc14) e0 #[vi p1, vi p2, vi p3, vi p4, vi p5, vi p6, vi p7, vi p8, vi p9, vr a10, .unset, .unset, .unset, .unset, .unset, .unset, .unset, .unset] [] (by rw [hml]; rfl) (hb hby at_191) pd_11 rfl (W := 0) (Nat.le_of_eq rfl) (Nat.le_trans (by decide) hrf) (Nat.le_trans (by decide) hrl) (Nat.le_trans (by omega) hrc : cells + 2 ≤ R.cells) (Nat.le_trans (by omega) hrs : slots + 5 ≤ R.slots)
  obtain ⟨b16, b17, k18, rfl, Nq15, K15, sq15_b16, sq15_b17, P15_0, P15_1, P15_2, P15_3, P15_4, P15_5⟩ := hQ15
  have N15 := Fr.app N0 Nq15
  have sz_b16 := Nat.le_trans (Keep.refl h0 []).1 sq15_b16
  have sz_b17 := Nat.le_trans (Keep.refl h0 []).1 sq15_b17
  have KK15 := Keep.trans (h := h0) (Keep.refl h0 []) K15 all0
  have O15 := O0.keep K15 all0
  obtain ⟨T19, h19, X19, e19, E19, A19, D19, U19, st19⟩ := newO X15 hx hZ hown (W hw 44 rfl) (W hw 45 rfl) (W hw 46 rfl) rfl (g := (mkF m 196 #[vi p1, vi p2, vi p3, vi p4, vi p5, vi p6, vi p7, vi p8, vi p9, vr a10, vr b16, .unset, .unset, .unset, .unset, .unset, .unset, .unset] [])) rfl (hb hby at_196) (Nat.le_trans (by omega) hrc : cells + 2 + 1 ≤ R.cells) (Nat.le_trans (by omega) hrs : slots + 5 + 3 ≤ R.slots)
  obtain ⟨b19, g19⟩ : ∃ z, z = T15.heap.size := ⟨_, rfl⟩
  rw [← g19] at A19 D19 U19 st19
  have ne20 := (own_ltn P15_1.lt (own_eqle g19))
  have ne21 := (own_ltn P15_4.lt (own_eqle g19))
  have g_b19 := own_born O15 (own_eqle g19)
  have sz_b19 := Nat.le_trans KK15.1 (own_eqle g19)
  have K19 := KK15.ext E19
  have O19 := O15.ext E19
  have F19_modCount : Fld Z h19 b19 "java/util/AbstractList" "modCount" "I" (.int 0) := D19 (Or.inl (W hw 64 rfl)) (ty := .int) (by decide)
  have F19_elementData : Fld Z h19 b19 "java/util/ArrayList" "elementData" "[Ljava/lang/Object;" .null := D19 (Or.inl (W hw 67 rfl)) (ty := (.array (.object "java/lang/Object"))) (by decide)
  have F19_size : Fld Z h19 b19 "java/util/ArrayList" "size" "I" (.int 0) := D19 (Or.inl (W hw 76 rfl)) (ty := .int) (by decide)
  obtain ⟨_, T24, L24, X24, hQ24, st24⟩ := cI X19 hx hZ hown (W hw 47 rfl) (W hw 48 rfl) (W hw 49 rfl) (W hw 46 rfl) rfl (by decide) (rm11 l Z a0 hw [] b19 a22 h19 n0 O19 A19 F19_modCount g_b19 F19_elementData F19_size S_23) e19 #[vi p1, vi p2, vi p3, vi p4, vi p5, vi p6, vi p7, vi p8, vi p9, vr a10, vr b16, .unset, .unset, .unset, .unset, .unset, .unset, .unset] [(.ref b19)] (by rw [hml]; rfl) (hb hby at_200) pd_13 rfl (W := 1) (Nat.le_of_eq rfl) (Nat.le_trans (by decide) hrf) (Nat.le_trans (by decide) hrl) (Nat.le_trans (by omega) hrc : cells + 2 + 1 + 0 ≤ R.cells) (Nat.le_trans (by omega) hrs : slots + 5 + 3 + 0 ≤ R.slots)
  obtain ⟨rfl, Nq24, K24, P24_0, P24_1, P24_2, P24_3⟩ := hQ24
  have N24 := Fr.app N15 Nq24
  have KK24 := Keep.trans (h := h19) K19 K24 (allS (Or.inr sz_b19) all0)
  have O24 := O19.keep K24 (allS g_b19 all0)
  have f28 := (((E_27.keep K15).ext E19).keep K24)
  obtain ⟨_, T29, L29, X29, hQ29, st29⟩ := cV X24 hx hZ hown (W hw 68 rfl) (W hw 69 rfl) (notFace_of_selects (args := #[]) (mvT hZ (W hw 71 rfl))) (W hw 71 rfl) (W hw 70 rfl) (W hw 72 rfl) (W hw 46 rfl) (by decide) (rm14 l Z a0 hw [] b19 a10 a22 k25 T24.heap n0 O24 P24_1 P24_0 g_b19 P24_2 P24_3 V_26 S_23 f28) rfl P24_0 #[vi p1, vi p2, vi p3, vi p4, vi p5, vi p6, vi p7, vi p8, vi p9, vr a10, vr b16, vr b19, .unset, .unset, .unset, .unset, .unset, .unset] [] (by rw [hml]; rfl) (hb hby at_209) pd_20 rfl (W := 0) (Nat.le_of_eq rfl) (Nat.le_trans (by decide) hrf) (Nat.le_trans (by decide) hrl) (Nat.le_trans (by omega) hrc : cells + 2 + 1 + 0 + 1 ≤ R.cells) (Nat.le_trans (by omega) hrs : slots + 5 + 3 + 0 + 10 ≤ R.slots)
  obtain ⟨b30, k31, rfl, Nq29, K29, sq29_b30, P29_0, P29_1, P29_2, P29_3, P29_4, P29_5, P29_6⟩ := hQ29
  have N29 := Fr.app N24 Nq29
  have f32 := ((P15_1.ext E19).keep K24)
  have ne33 := (own_ltn f32.lt sq29_b30)
  have f34 := ((P15_4.ext E19).keep K24)
  have ne35 := (own_ltn f34.lt sq29_b30)
  have ne36 := (own_ltn P24_0.lt sq29_b30)
  have sz_b30 := Nat.le_trans KK24.1 sq29_b30
  have KK29 := Keep.trans (h := T24.heap) KK24 K29 (allS (Or.inr sz_b19) all0)
  have f38 := (f32.keep K29)
  have f39 := (((P15_2.ext E19).keep K24 (ninS ne20 nin0)).keep K29 (ninS ne20 nin0))
  have f40 := (((P15_3.ext E19).keep K24 (ninS ne20 nin0)).keep K29 (ninS ne20 nin0))
  have f41 := (f34.keep K29)
  have f42 := (((P15_5.ext E19).keep K24 (ninS ne21 nin0)).keep K29 (ninS ne21 nin0))
  refine ⟨T29, _, X29.more (show cells + 2 + 1 + 0 + 1 ≤ cells + 4 by omega) (show slots + 5 + 3 + 0 + 10 ≤ slots + 18 by omega), N29, ?_⟩
  refine ⟨b16, b19, b17, b30, k18, k31, KK29, sz_b16, sz_b19, sz_b17, sz_b30, ne20, P15_0, ne33, (Ne.symm ne21), ne36, ne35, f38, f39, f40, P29_0, P29_1, P29_2, P29_3, f41, f42, P29_4, P29_5, P29_6, fun t kt => ?_⟩
  show Steps p.tables e below (T0.setTop (mkF m 189 #[vi p1, vi p2, vi p3, vi p4, vi p5, vi p6, vi p7, vi p8, vi p9, vr a10, .unset, .unset, .unset, .unset, .unset, .unset, .unset, .unset] [])) _
  refine XS.iload X0.here hx rfl (hb hby at_189) rfl ?_
  refine st15 _ ?_
  refine XS.astore X15.here hx rfl (hb hby at_194) rfl rfl (l' := #[vi p1, vi p2, vi p3, vi p4, vi p5, vi p6, vi p7, vi p8, vi p9, vr a10, vr b16, .unset, .unset, .unset, .unset, .unset, .unset, .unset]) rfl ?_
  refine st19 _ ?_
  refine XS.dup X19.here hx rfl (hb hby at_199) rfl rfl ?_
  refine st24 _ ?_
  refine XS.astore X24.here hx rfl (hb hby at_203) rfl rfl (l' := #[vi p1, vi p2, vi p3, vi p4, vi p5, vi p6, vi p7, vi p8, vi p9, vr a10, vr b16, vr b19, .unset, .unset, .unset, .unset, .unset, .unset]) rfl ?_
  refine XS.aload X24.here hx rfl (hb hby at_205) rfl rfl ?_
  refine XS.aload X24.here hx rfl (hb hby at_207) rfl rfl ?_
  refine st29 _ ?_
  show Steps p.tables e below (T29.setTop (mkF m 212 #[vi p1, vi p2, vi p3, vi p4, vi p5, vi p6, vi p7, vi p8, vi p9, vr a10, vr b16, vr b19, .unset, .unset, .unset, .unset, .unset, .unset] [(.int 1)])) _
  refine XS.pop X29.here hx rfl (hb hby at_212) rfl rfl ?_
  exact kt
theorem d19_0 : decode prog_1_method_1_code 0 = .ok (.aload_n 0, 1) := by decide +kernel
theorem d19_1 : decode prog_1_method_1_code 1 = .ok (.invokespecial 1, 3) := by decide +kernel
theorem d19_4 : decode prog_1_method_1_code 4 = .ok (.aload_n 0, 1) := by decide +kernel
theorem d19_5 : decode prog_1_method_1_code 5 = .ok (.aload_n 1, 1) := by decide +kernel
theorem d19_6 : decode prog_1_method_1_code 6 = .ok (.putfield 7, 3) := by decide +kernel
theorem d19_9 : decode prog_1_method_1_code 9 = .ok (.return_, 1) := by decide +kernel
theorem ef_19_RR (m : MethodId) (x0 : Addr) (x1 : Addr) : entryFrame m #[(.ref x0), (.ref x1)] 2 = mkF m 0 #[vr x0, vr x1] [] := by first | (simp [entryFrame, mkF, argsToLocals, Value.category]; done) | rfl
theorem pn_21 : plainName "com/example/runqueue/runqueue/Arguments" = true := by first | (simp [plainName, overriddenIn]; done) | decide +kernel
def Qrm19 (Z : State) (a1 : Addr) (a2 : Addr) (h0 : Heap) (n0 : Nat) (v : Option Value) (h : Heap) (L : List Loc) : Prop := v = none ∧ Fr n0 L ∧ Keep h0 h [a1] ∧ Exa Z h a1 "com/example/runqueue/runqueue/Arguments" ∧ Fld Z h a1 "com/example/runqueue/runqueue/Arguments" "args" "Ljava/util/List;" (.ref a2) ∧ Fld Z h a1 "com/example/runqueue/runqueue/Arguments" "next" "I" (.int 0) ∧ Fld Z h a1 "com/example/runqueue/runqueue/Arguments" "option" "Ljava/lang/String;" .null ∧ Fld Z h a1 "com/example/runqueue/runqueue/Arguments" "attached" "Ljava/lang/String;" .null
set_option maxRecDepth 65536 in
set_option maxHeartbeats 40000000 in
theorem rm19 (l : Launch) (Z : State) (a0 : Array Value) (hw : ∀ d ∈ tables_1, d.before a0 Z = true) (ws : List Jvm.Cond) (a1 : Addr) (a2 : Addr) (h0 : Heap) (n0 : Nat) (O0 : Old Z n0 h0) (E_4 : Exa Z h0 a1 "com/example/runqueue/runqueue/Arguments") (F_5 : Fld Z h0 a1 "com/example/runqueue/runqueue/Arguments" "args" "Ljava/util/List;" .null) (g_a1 : n0 ≤ a1) (F_7 : Fld Z h0 a1 "com/example/runqueue/runqueue/Arguments" "next" "I" (.int 0)) (F_8 : Fld Z h0 a1 "com/example/runqueue/runqueue/Arguments" "option" "Ljava/lang/String;" .null) (F_9 : Fld Z h0 a1 "com/example/runqueue/runqueue/Arguments" "attached" "Ljava/lang/String;" .null) :
    MF l Z h0 (⟨"com/example/runqueue/runqueue/Arguments", "<init>", "(Ljava/util/List;)V"⟩ : MethodName) prog_1_method_1_code 2 none ws (⟨1, 0, 0, 12⟩ : Room) #[(.ref a1), (.ref a2)] (Qrm19 Z a1 a2 h0 n0) := by
  refine MetFree.of_bodySF (plainFor_of_name pn_21) hisR ?_
  intro p e s m args below meth c s₁ Bd hml0 hP hK
  obtain ⟨rfl, hZ, hh⟩ := hP
  have hx := Bd.exec
  have hby := Bd.bytes
  have hml : c.maxLocals = 2 := hml0
  have hown : s.vm.findClass "com/example/runqueue/runqueue/Arguments" = some m.cls := findClass_of_methodNamed Bd.named
  have hnm := (name_of_methodNamed Bd.named Bd.method).1
  have X0 : Stand p l e (⟨1, 0, 0, 12⟩ : Room) s m #[(.ref a1), (.ref a2)] below meth c s₁ [] 0 0 := Stand.of_body Bd
  have e0 : s₁.heap = h0 := by rw [← hh, Bd.state]; rfl
  have N0 := Fr.nil n0
  have pre0 : ∀ t, Steps p.tables e below (s₁.setTop (mkF m 0 #[vr a1, vr a2] [])) t → Steps p.tables e below (s₁.setTop (entryFrame m #[(.ref a1), (.ref a2)] 2)) t := fun t k => castTop (ef_19_RR m a1 a2) k
  obtain ⟨T3, X3, e3, st3⟩ := initO X0 hx hZ hown (W hw 105 rfl) (W hw 12 rfl) (W hw 13 rfl) e0 (g := (mkF m 1 #[vr a1, vr a2] [(.ref a1)])) rfl (by rw [hml]; rfl) rfl (hb hby d19_1) (by decide) (W := 0) (by show 2 * 0 + _ ≤ _; exact Nat.le_of_eq rfl) (by decide)
  obtain ⟨T6, h6, X6, e6, W6, st6⟩ := putF X3 hx hZ hown (host := "") (Or.inl (W hw 106 rfl)) Via.refl e3 F_5 E_4 (Or.inr ⟨(W hw 107 rfl), rfl, hnm⟩) (W hw 100 rfl) (ty := (.object "java/util/List")) (by decide) rfl rfl (g := (mkF m 6 #[vr a1, vr a2] [(.ref a2), (.ref a1)])) rfl rfl (hb hby d19_6)
  have K6 := (Keep.refl h0 [a1]).wr W6 (Or.inl (List.mem_of_getElem? (i := 0) rfl))
  have N6 := Fr.snoc X6 N0 g_a1
  have Fw6 := F_5.same W6
  have f10 := (E_4.wr W6)
  have f11 := (F_7.other W6 (Or.inr (slot_ne (Or.inl (W hw 114 rfl)) (Or.inr (W hw 107 rfl)) (by decide) (t := .int) (t' := (.object "java/util/List")) (by decide) (by decide))))
  have f12 := (F_8.other W6 (Or.inr (slot_ne (Or.inl (W hw 211 rfl)) (Or.inr (W hw 107 rfl)) (by decide) (t := (.object "java/lang/String")) (t' := (.object "java/util/List")) (by decide) (by decide))))
  have f13 := (F_9.other W6 (Or.inr (slot_ne (Or.inl (W hw 213 rfl)) (Or.inr (W hw 107 rfl)) (by decide) (t := (.object "java/lang/String")) (t' := (.object "java/util/List")) (by decide) (by decide))))
  obtain ⟨fs, hr, hrun, hended, hW, hsame⟩ := X6.leave (v := none) (fun _ => rfl)
  refine ⟨_, _, pre0 _ ?_, hrun, hended, _, _, rfl, ?_, ⟨_, rfl⟩, hW, hsame.mono (by decide) (by decide)⟩
  · show Steps p.tables e below (s₁.setTop (mkF m 0 #[vr a1, vr a2] [])) _
    refine XS.aloadN X0.here hx rfl (hb hby d19_0) rfl rfl ?_
    refine st3 _ ?_
    refine XS.aloadN X3.here hx rfl (hb hby d19_4) rfl rfl ?_
    refine XS.aloadN X3.here hx rfl (hb hby d19_5) rfl rfl ?_
    refine st6 _ ?_
    exact X6.returnOut hx Bd.returns (hb hby d19_9) hr
  · show Qrm19 Z a1 a2 h0 n0 _ T6.heap _
    rw [e6]
    exact ⟨rfl, N6, K6, f10, Fw6, f11, f12, f13⟩
theorem pd_22 : parseMethodDescriptor "(Ljava/util/List;)V" = some ⟨[(.object "java/util/List")], none⟩ := by decide +kernel
set_option maxRecDepth 65536 in
set_option maxHeartbeats 40000000 in
theorem sg0_226_237 {p : Program} {l : Launch} {e : Env} {R : Room} {s : State} {m : MethodId} {args : Array Value} {below : List Frame} {meth : Method} {c : Code} {T0 : State} {locs : List Loc} {cells slots : Nat} {Z : State} {a0 : Array Value} (hw : ∀ d ∈ tables_1, d.before a0 Z = true) (p1 : Int32) (p2 : Int32) (p3 : Int32) (p4 : Int32) (p5 : Int32) (p6 : Int32) (p7 : Int32) (p8 : Int32) (p9 : Int32) (a10 : Addr) (a11 : Addr) (a12 : Addr) (h0 : Heap) (n0 : Nat) (O0 : Old Z n0 h0)
    (X0 : Stand p l e R s m args below meth c T0 locs cells slots) (hx : p.tables.exec = Jvm.exec) (hZ : Z.Warmed39 s.vm) (hby : c.code = code) (hml : c.maxLocals = 18) (hown : s.vm.findClass "com/example/runqueue/runqueue/ArgumentsFlagPinLaw" = some m.cls) (e0 : T0.heap = h0) (N0 : Fr n0 locs) (hrc : cells + 1 ≤ R.cells) (hrs : slots + 4 ≤ R.slots) (hrf : 2 ≤ R.frames) (hrl : 26 ≤ R.locals) :
    ∃ (T' : State) (L' : List Loc), Stand p l e R s m args below meth c T' L' (cells + 1) (slots + 4) ∧ Fr n0 L' ∧ (∃ b13 : Addr, Keep h0 T'.heap [] ∧ h0.size ≤ b13 ∧ Exa Z T'.heap b13 "com/example/runqueue/runqueue/Arguments" ∧ Fld Z T'.heap b13 "com/example/runqueue/runqueue/Arguments" "args" "Ljava/util/List;" (.ref a12) ∧ Fld Z T'.heap b13 "com/example/runqueue/runqueue/Arguments" "next" "I" (.int 0) ∧ Fld Z T'.heap b13 "com/example/runqueue/runqueue/Arguments" "option" "Ljava/lang/String;" .null ∧ Fld Z T'.heap b13 "com/example/runqueue/runqueue/Arguments" "attached" "Ljava/lang/String;" .null ∧ (∀ t, Steps p.tables e below (T'.setTop (mkF m 237 #[vi p1, vi p2, vi p3, vi p4, vi p5, vi p6, vi p7, vi p8, vi p9, vr a10, vr a11, vr a12, vr b13, .unset, .unset, .unset, .unset, .unset] [])) t → Steps p.tables e below (T0.setTop (mkF m 226 #[vi p1, vi p2, vi p3, vi p4, vi p5, vi p6, vi p7, vi p8, vi p9, vr a10, vr a11, vr a12, .unset, .unset, .unset, .unset, .unset, .unset] [])) t)) := by
  obtain ⟨T13, h13, X13, e13, E13, A13, D13, U13, st13⟩ := newO X0 hx hZ hown (W hw 99 rfl) (W hw 100 rfl) (W hw 101 rfl) e0 (g := (mkF m 226 #[vi p1, vi p2, vi p3, vi p4, vi p5, vi p6, vi p7, vi p8, vi p9, vr a10, vr a11, vr a12, .unset, .unset, .unset, .unset, .unset, .unset] [])) rfl (hb hby at_226) (Nat.le_trans (by omega) hrc : cells + 1 ≤ R.cells) (Nat.le_trans (by omega) hrs : slots + 4 ≤ R.slots)
  obtain ⟨b13, g13⟩ : ∃ z, z = h0.size := ⟨_, rfl⟩
  rw [← g13] at A13 D13 U13 st13
  have g_b13 := own_born O0 (own_eqle g13)
  have sz_b13 := Nat.le_trans (Keep.refl h0 []).1 (own_eqle g13)
  have K13 := (Keep.refl h0 []).ext E13
  have O13 := O0.ext E13
  have F13_args : Fld Z h13 b13 "com/example/runqueue/runqueue/Arguments" "args" "Ljava/util/List;" .null := D13 (Or.inr (W hw 107 rfl)) (ty := (.object "java/util/List")) (by decide)
  have F13_next : Fld Z h13 b13 "com/example/runqueue/runqueue/Arguments" "next" "I" (.int 0) := D13 (Or.inl (W hw 114 rfl)) (ty := .int) (by decide)
  have F13_option : Fld Z h13 b13 "com/example/runqueue/runqueue/Arguments" "option" "Ljava/lang/String;" .null := D13 (Or.inl (W hw 211 rfl)) (ty := (.object "java/lang/String")) (by decide)
  have F13_attached : Fld Z h13 b13 "com/example/runqueue/runqueue/Arguments" "attached" "Ljava/lang/String;" .null := D13 (Or.inl (W hw 213 rfl)) (ty := (.object "java/lang/String")) (by decide)
  obtain ⟨_, T14, L14, X14, hQ14, st14⟩ := cI X13 hx hZ hown (W hw 102 rfl) (W hw 103 rfl) (W hw 104 rfl) (W hw 101 rfl) rfl (by decide) (rm19 l Z a0 hw [] b13 a12 h13 n0 O13 A13 F13_args g_b13 F13_next F13_option F13_attached) e13 #[vi p1, vi p2, vi p3, vi p4, vi p5, vi p6, vi p7, vi p8, vi p9, vr a10, vr a11, vr a12, .unset, .unset, .unset, .unset, .unset, .unset] [(.ref b13)] (by rw [hml]; rfl) (hb hby at_232) pd_22 rfl (W := 1) (Nat.le_of_eq rfl) (Nat.le_trans (by decide) hrf) (Nat.le_trans (by decide) hrl) (Nat.le_trans (by omega) hrc : cells + 1 + 0 ≤ R.cells) (Nat.le_trans (by omega) hrs : slots + 4 + 0 ≤ R.slots)
  obtain ⟨rfl, Nq14, K14, P14_0, P14_1, P14_2, P14_3, P14_4⟩ := hQ14
  have N14 := Fr.app N0 Nq14
  have KK14 := Keep.trans (h := h13) K13 K14 (allS (Or.inr sz_b13) all0)
  refine ⟨T14, _, X14.more (show cells + 1 + 0 ≤ cells + 1 by omega) (show slots + 4 + 0 ≤ slots + 4 by omega), N14, ?_⟩
  refine ⟨b13, KK14, sz_b13, P14_0, P14_1, P14_2, P14_3, P14_4, fun t kt => ?_⟩
  show Steps p.tables e below (T0.setTop (mkF m 226 #[vi p1, vi p2, vi p3, vi p4, vi p5, vi p6, vi p7, vi p8, vi p9, vr a10, vr a11, vr a12, .unset, .unset, .unset, .unset, .unset, .unset] [])) _
  refine st13 _ ?_
  refine XS.dup X13.here hx rfl (hb hby at_229) rfl rfl ?_
  refine XS.aload X13.here hx rfl (hb hby at_230) rfl rfl ?_
  refine st14 _ ?_
  refine XS.astore X14.here hx rfl (hb hby at_235) rfl rfl (l' := #[vi p1, vi p2, vi p3, vi p4, vi p5, vi p6, vi p7, vi p8, vi p9, vr a10, vr a11, vr a12, vr b13, .unset, .unset, .unset, .unset, .unset]) rfl ?_
  exact kt
theorem d20_0 : decode prog_1_method_2_code 0 = .ok (.aload_n 0, 1) := by decide +kernel
theorem d20_1 : decode prog_1_method_2_code 1 = .ok (.getfield 13, 3) := by decide +kernel
theorem d20_4 : decode prog_1_method_2_code 4 = .ok (.aload_n 0, 1) := by decide +kernel
theorem d20_5 : decode prog_1_method_2_code 5 = .ok (.getfield 7, 3) := by decide +kernel
theorem d20_8 : decode prog_1_method_2_code 8 = .ok (.invokeinterface 17 1, 5) := by decide +kernel
theorem d21_0 : decode jdk_38_method_8_code 0 = .ok (.aload_n 0, 1) := by decide +kernel
theorem d21_1 : decode jdk_38_method_8_code 1 = .ok (.getfield 48, 3) := by decide +kernel
theorem d21_4 : decode jdk_38_method_8_code 4 = .ok (.ireturn, 1) := by decide +kernel
theorem ef_21_R (m : MethodId) (x0 : Addr) : entryFrame m #[(.ref x0)] 1 = mkF m 0 #[vr x0] [] := by first | (simp [entryFrame, mkF, argsToLocals, Value.category]; done) | rfl
def Qrm21 (Z : State) (a1 : Addr) (h0 : Heap) (n0 : Nat) (v : Option Value) (h : Heap) (L : List Loc) : Prop := v = some (.int 1) ∧ Fr n0 L ∧ h = h0
set_option maxRecDepth 65536 in
set_option maxHeartbeats 40000000 in
theorem rm21 (l : Launch) (Z : State) (a0 : Array Value) (hw : ∀ d ∈ tables_1, d.before a0 Z = true) (ws : List Jvm.Cond) (a1 : Addr) (h0 : Heap) (n0 : Nat) (O0 : Old Z n0 h0) (F_2 : Fld Z h0 a1 "java/util/ArrayList" "size" "I" (.int 1)) :
    MF l Z h0 (⟨"java/util/ArrayList", "size", "()I"⟩ : MethodName) jdk_38_method_8_code 1 (some .int) ws (⟨0, 0, 0, 0⟩ : Room) #[(.ref a1)] (Qrm21 Z a1 h0 n0) := by
  refine MetFree.of_bodySF (plainFor_of_name pn_15) hisR ?_
  intro p e s m args below meth c s₁ Bd hml0 hP hK
  obtain ⟨rfl, hZ, hh⟩ := hP
  have hx := Bd.exec
  have hby := Bd.bytes
  have hown : s.vm.findClass "java/util/ArrayList" = some m.cls := findClass_of_methodNamed Bd.named
  have X0 : Stand p l e (⟨0, 0, 0, 0⟩ : Room) s m #[(.ref a1)] below meth c s₁ [] 0 0 := Stand.of_body Bd
  have e0 : s₁.heap = h0 := by rw [← hh, Bd.state]; rfl
  have N0 := Fr.nil n0
  have pre0 : ∀ t, Steps p.tables e below (s₁.setTop (mkF m 0 #[vr a1] [])) t → Steps p.tables e below (s₁.setTop (entryFrame m #[(.ref a1)] 1)) t := fun t k => castTop (ef_21_R m a1) k
  obtain ⟨T3, X3, e3, st3⟩ := getF X0 hx hZ hown (host := "") (Or.inl (W hw 75 rfl)) Via.refl e0 F_2 (g := (mkF m 1 #[vr a1] [(.ref a1)])) rfl rfl (hb hby d21_1)
  obtain ⟨fs, hr, hrun, hended, hW, hsame⟩ := X3.leave (v := some (.int 1)) (fun h => by rw [Bd.returns] at h; cases h)
  refine ⟨_, _, pre0 _ ?_, hrun, hended, _, _, rfl, ?_, ⟨_, rfl⟩, hW, hsame.mono (by decide) (by decide)⟩
  · show Steps p.tables e below (s₁.setTop (mkF m 0 #[vr a1] [])) _
    refine XS.aloadN X0.here hx rfl (hb hby d21_0) rfl rfl ?_
    refine st3 _ ?_
    exact retI X3 hx Bd.returns (hb hby d21_4) hr
  · show Qrm21 Z a1 h0 n0 _ T3.heap _
    rw [e3]
    exact ⟨rfl, N0, rfl⟩
theorem pd_23 : parseMethodDescriptor "()I" = some ⟨[], some .int⟩ := by decide +kernel
theorem d20_13 : decode prog_1_method_2_code 13 = .ok (.if_icmp .ne 5, 3) := by decide +kernel
theorem d20_18 : decode prog_1_method_2_code 18 = .ok (.aload_n 0, 1) := by decide +kernel
theorem d20_19 : decode prog_1_method_2_code 19 = .ok (.getfield 7, 3) := by decide +kernel
theorem d20_22 : decode prog_1_method_2_code 22 = .ok (.aload_n 0, 1) := by decide +kernel
theorem d20_23 : decode prog_1_method_2_code 23 = .ok (.getfield 13, 3) := by decide +kernel
theorem d20_26 : decode prog_1_method_2_code 26 = .ok (.invokeinterface 23 2, 5) := by decide +kernel
theorem d22_0 : decode jdk_38_method_20_code 0 = .ok (.iload_n 1, 1) := by decide +kernel
theorem d22_1 : decode jdk_38_method_20_code 1 = .ok (.aload_n 0, 1) := by decide +kernel
theorem d22_2 : decode jdk_38_method_20_code 2 = .ok (.getfield 48, 3) := by decide +kernel
theorem d22_5 : decode jdk_38_method_20_code 5 = .ok (.invokestatic 118, 3) := by decide +kernel
theorem d23_0 : decode jdk_31_method_17_code 0 = .ok (.iload_n 0, 1) := by decide +kernel
theorem d23_1 : decode jdk_31_method_17_code 1 = .ok (.iload_n 1, 1) := by decide +kernel
theorem d23_2 : decode jdk_31_method_17_code 2 = .ok (.aconst_null, 1) := by decide +kernel
theorem d23_3 : decode jdk_31_method_17_code 3 = .ok (.invokestatic 105, 3) := by decide +kernel
theorem d24_0 : decode jdk_41_method_11_code 0 = .ok (.iload_n 0, 1) := by decide +kernel
theorem d24_1 : decode jdk_41_method_11_code 1 = .ok (.ifCond .lt 8, 3) := by decide +kernel
theorem d24_4 : decode jdk_41_method_11_code 4 = .ok (.iload_n 0, 1) := by decide +kernel
theorem d24_5 : decode jdk_41_method_11_code 5 = .ok (.iload_n 1, 1) := by decide +kernel
theorem d24_6 : decode jdk_41_method_11_code 6 = .ok (.if_icmp .lt 10, 3) := by decide +kernel
theorem d24_16 : decode jdk_41_method_11_code 16 = .ok (.iload_n 0, 1) := by decide +kernel
theorem d24_17 : decode jdk_41_method_11_code 17 = .ok (.ireturn, 1) := by decide +kernel
theorem ef_24_IIn (m : MethodId) (x0 : Int32) (x1 : Int32) : entryFrame m #[(.int x0), (.int x1), .null] 3 = mkF m 0 #[vi x0, vi x1, .val .null] [] := by first | (simp [entryFrame, mkF, argsToLocals, Value.category]; done) | rfl
theorem pn_24 : plainName "jdk/internal/util/Preconditions" = true := by first | (simp [plainName, overriddenIn]; done) | decide +kernel
def Qrm24 (Z : State)  (h0 : Heap) (n0 : Nat) (v : Option Value) (h : Heap) (L : List Loc) : Prop := v = some (.int 0) ∧ Fr n0 L ∧ h = h0
set_option maxRecDepth 65536 in
set_option maxHeartbeats 40000000 in
theorem rm24 (l : Launch) (Z : State) (a0 : Array Value) (hw : ∀ d ∈ tables_1, d.before a0 Z = true) (ws : List Jvm.Cond)  (h0 : Heap) (n0 : Nat) (O0 : Old Z n0 h0) :
    MF l Z h0 (⟨"jdk/internal/util/Preconditions", "checkIndex", "(IILjava/util/function/BiFunction;)I"⟩ : MethodName) jdk_41_method_11_code 3 (some .int) ws (⟨0, 0, 0, 0⟩ : Room) #[(.int 0), (.int 1), .null] (Qrm24 Z  h0 n0) := by
  refine MetFree.of_bodySF (plainFor_of_name pn_24) hisR ?_
  intro p e s m args below meth c s₁ Bd hml0 hP hK
  obtain ⟨rfl, hZ, hh⟩ := hP
  have hx := Bd.exec
  have hby := Bd.bytes
  have X0 : Stand p l e (⟨0, 0, 0, 0⟩ : Room) s m #[(.int 0), (.int 1), .null] below meth c s₁ [] 0 0 := Stand.of_body Bd
  have e0 : s₁.heap = h0 := by rw [← hh, Bd.state]; rfl
  have N0 := Fr.nil n0
  have pre0 : ∀ t, Steps p.tables e below (s₁.setTop (mkF m 0 #[vi 0, vi 1, .val .null] [])) t → Steps p.tables e below (s₁.setTop (entryFrame m #[(.int 0), (.int 1), .null] 3)) t := fun t k => castTop (ef_24_IIn m (0 : Int32) (1 : Int32)) k
  obtain ⟨fs, hr, hrun, hended, hW, hsame⟩ := X0.leave (v := some (.int 0)) (fun h => by rw [Bd.returns] at h; cases h)
  refine ⟨_, _, pre0 _ ?_, hrun, hended, _, _, rfl, ?_, ⟨_, rfl⟩, hW, hsame.mono (by decide) (by decide)⟩
  · show Steps p.tables e below (s₁.setTop (mkF m 0 #[vi 0, vi 1, .val .null] [])) _
    refine XS.iloadN X0.here hx rfl (hb hby d24_0) rfl ?_
    refine XS.ifNo X0.here hx rfl (hb hby d24_1) rfl ((if0 _ _).trans (flt ((by decide) : ¬ ((0 : Int32) < (0 : Int32)))).1) ?_
    refine XS.iloadN X0.here hx rfl (hb hby d24_4) rfl ?_
    refine XS.iloadN X0.here hx rfl (hb hby d24_5) rfl ?_
    refine XS.icmpYes X0.here hx rfl (pc0 := 6) (pc' := 16) rfl (hb hby d24_6) rfl (tlt ((by decide) : (0 : Int32) < (1 : Int32))).1 (by decide) (by decide) ?_
    refine XS.iloadN X0.here hx rfl (hb hby d24_16) rfl ?_
    exact retI X0 hx Bd.returns (hb hby d24_17) hr
  · show Qrm24 Z  h0 n0 _ s₁.heap _
    rw [e0]
    exact ⟨rfl, N0, rfl⟩
theorem pd_25 : parseMethodDescriptor "(IILjava/util/function/BiFunction;)I" = some ⟨[.int, .int, (.object "java/util/function/BiFunction")], some .int⟩ := by decide +kernel
theorem d23_6 : decode jdk_31_method_17_code 6 = .ok (.ireturn, 1) := by decide +kernel
theorem ef_23_II (m : MethodId) (x0 : Int32) (x1 : Int32) : entryFrame m #[(.int x0), (.int x1)] 2 = mkF m 0 #[vi x0, vi x1] [] := by first | (simp [entryFrame, mkF, argsToLocals, Value.category]; done) | rfl
theorem pn_26 : plainName "java/util/Objects" = true := by first | (simp [plainName, overriddenIn]; done) | decide +kernel
def Qrm23 (Z : State)  (h0 : Heap) (n0 : Nat) (v : Option Value) (h : Heap) (L : List Loc) : Prop := v = some (.int 0) ∧ Fr n0 L ∧ h = h0
set_option maxRecDepth 65536 in
set_option maxHeartbeats 40000000 in
theorem rm23 (l : Launch) (Z : State) (a0 : Array Value) (hw : ∀ d ∈ tables_1, d.before a0 Z = true) (ws : List Jvm.Cond)  (h0 : Heap) (n0 : Nat) (O0 : Old Z n0 h0) :
    MF l Z h0 (⟨"java/util/Objects", "checkIndex", "(II)I"⟩ : MethodName) jdk_31_method_17_code 2 (some .int) ws (⟨1, 0, 0, 14⟩ : Room) #[(.int 0), (.int 1)] (Qrm23 Z  h0 n0) := by
  refine MetFree.of_bodySF (plainFor_of_name pn_26) hisR ?_
  intro p e s m args below meth c s₁ Bd hml0 hP hK
  obtain ⟨rfl, hZ, hh⟩ := hP
  have hx := Bd.exec
  have hby := Bd.bytes
  have hml : c.maxLocals = 2 := hml0
  have hown : s.vm.findClass "java/util/Objects" = some m.cls := findClass_of_methodNamed Bd.named
  have X0 : Stand p l e (⟨1, 0, 0, 14⟩ : Room) s m #[(.int 0), (.int 1)] below meth c s₁ [] 0 0 := Stand.of_body Bd
  have e0 : s₁.heap = h0 := by rw [← hh, Bd.state]; rfl
  have N0 := Fr.nil n0
  have pre0 : ∀ t, Steps p.tables e below (s₁.setTop (mkF m 0 #[vi 0, vi 1] [])) t → Steps p.tables e below (s₁.setTop (entryFrame m #[(.int 0), (.int 1)] 2)) t := fun t k => castTop (ef_23_II m (0 : Int32) (1 : Int32)) k
  obtain ⟨_, T1, L1, X1, hQ1, st1⟩ := cS X0 hx hZ hown (W hw 136 rfl) (W hw 137 rfl) (W hw 138 rfl) (W hw 139 rfl) (by decide) (rm24 l Z a0 hw []  h0 n0 O0 ) e0 #[vi 0, vi 1] [] (by rw [hml]; rfl) (hb hby d23_3) pd_25 rfl (W := 0) (Nat.le_of_eq rfl) (by decide) (by decide) (by decide) (by decide)
  obtain ⟨rfl, Nq1, e1⟩ := hQ1
  have N1 := Fr.app N0 Nq1
  obtain ⟨fs, hr, hrun, hended, hW, hsame⟩ := X1.leave (v := some (.int 0)) (fun h => by rw [Bd.returns] at h; cases h)
  refine ⟨_, _, pre0 _ ?_, hrun, hended, _, _, rfl, ?_, ⟨_, rfl⟩, hW, hsame.mono (by decide) (by decide)⟩
  · show Steps p.tables e below (s₁.setTop (mkF m 0 #[vi 0, vi 1] [])) _
    refine XS.iloadN X0.here hx rfl (hb hby d23_0) rfl ?_
    refine XS.iloadN X0.here hx rfl (hb hby d23_1) rfl ?_
    refine XS.aconstNull X0.here hx rfl (hb hby d23_2) ?_
    refine st1 _ ?_
    exact retI X1 hx Bd.returns (hb hby d23_6) hr
  · show Qrm23 Z  h0 n0 _ T1.heap _
    rw [e1]
    exact ⟨rfl, N1, rfl⟩
theorem d22_8 : decode jdk_38_method_20_code 8 = .ok (.pop, 1) := by decide +kernel
theorem d22_9 : decode jdk_38_method_20_code 9 = .ok (.aload_n 0, 1) := by decide +kernel
theorem d22_10 : decode jdk_38_method_20_code 10 = .ok (.iload_n 1, 1) := by decide +kernel
theorem d22_11 : decode jdk_38_method_20_code 11 = .ok (.invokevirtual 123, 3) := by decide +kernel
theorem d25_0 : decode jdk_38_method_18_code 0 = .ok (.aload_n 0, 1) := by decide +kernel
theorem d25_1 : decode jdk_38_method_18_code 1 = .ok (.getfield 9, 3) := by decide +kernel
theorem d25_4 : decode jdk_38_method_18_code 4 = .ok (.iload_n 1, 1) := by decide +kernel
theorem d25_5 : decode jdk_38_method_18_code 5 = .ok (.aaload, 1) := by decide +kernel
theorem d25_6 : decode jdk_38_method_18_code 6 = .ok (.areturn, 1) := by decide +kernel
theorem ef_25_RI (m : MethodId) (x0 : Addr) (x1 : Int32) : entryFrame m #[(.ref x0), (.int x1)] 2 = mkF m 0 #[vr x0, vi x1] [] := by first | (simp [entryFrame, mkF, argsToLocals, Value.category]; done) | rfl
def Qrm25 (Z : State) (a1 : Addr) (a2 : Addr) (k5 : ClassId) (a6 : Addr) (h0 : Heap) (n0 : Nat) (v : Option Value) (h : Heap) (L : List Loc) : Prop := v = some (.ref a6) ∧ Fr n0 L ∧ h = h0
set_option maxRecDepth 65536 in
set_option maxHeartbeats 40000000 in
theorem rm25 (l : Launch) (Z : State) (a0 : Array Value) (hw : ∀ d ∈ tables_1, d.before a0 Z = true) (ws : List Jvm.Cond) (a1 : Addr) (a2 : Addr) (k5 : ClassId) (a6 : Addr) (h0 : Heap) (n0 : Nat) (O0 : Old Z n0 h0) (F_3 : Fld Z h0 a1 "java/util/ArrayList" "elementData" "[Ljava/lang/Object;" (.ref a2)) (V_7 : Arv Z h0 a2 k5 (.object "java/lang/Object") (10 : Int32) [(.ref a6)] .null) :
    MF l Z h0 (⟨"java/util/ArrayList", "elementData", "(I)Ljava/lang/Object;"⟩ : MethodName) jdk_38_method_18_code 2 (some (.object "java/lang/Object")) ws (⟨0, 0, 0, 0⟩ : Room) #[(.ref a1), (.int 0)] (Qrm25 Z a1 a2 k5 a6 h0 n0) := by
  refine MetFree.of_bodySF (plainFor_of_name pn_15) hisR ?_
  intro p e s m args below meth c s₁ Bd hml0 hP hK
  obtain ⟨rfl, hZ, hh⟩ := hP
  have hx := Bd.exec
  have hby := Bd.bytes
  have hown : s.vm.findClass "java/util/ArrayList" = some m.cls := findClass_of_methodNamed Bd.named
  have X0 : Stand p l e (⟨0, 0, 0, 0⟩ : Room) s m #[(.ref a1), (.int 0)] below meth c s₁ [] 0 0 := Stand.of_body Bd
  have e0 : s₁.heap = h0 := by rw [← hh, Bd.state]; rfl
  have N0 := Fr.nil n0
  have pre0 : ∀ t, Steps p.tables e below (s₁.setTop (mkF m 0 #[vr a1, vi 0] [])) t → Steps p.tables e below (s₁.setTop (entryFrame m #[(.ref a1), (.int 0)] 2)) t := fun t k => castTop (ef_25_RI m a1 (0 : Int32)) k
  obtain ⟨T4, X4, e4, st4⟩ := getF X0 hx hZ hown (host := "") (Or.inl (W hw 66 rfl)) Via.refl e0 F_3 (g := (mkF m 1 #[vr a1, vi 0] [(.ref a1)])) rfl rfl (hb hby d25_1)
  obtain ⟨cl8, Ar8, q8, S8, M8, Hs8, G8⟩ := id V_7
  have hin8 : ¬ ((0 : Int32) < 0 ∨ cl8.slots.size ≤ ((0 : Int32)).toNatClampNeg) := inb_of S8 ⟨by decide, by decide⟩
  have hat8 : cl8.slots[((0 : Int32)).toNatClampNeg]? = some (.ref a6) := Has.at Hs8 hin8 rfl
  obtain ⟨fs, hr, hrun, hended, hW, hsame⟩ := X4.leave (v := some (.ref a6)) (fun h => by rw [Bd.returns] at h; cases h)
  refine ⟨_, _, pre0 _ ?_, hrun, hended, _, _, rfl, ?_, ⟨_, rfl⟩, hW, hsame.mono (by decide) (by decide)⟩
  · show Steps p.tables e below (s₁.setTop (mkF m 0 #[vr a1, vi 0] [])) _
    refine XS.aloadN X0.here hx rfl (hb hby d25_0) rfl rfl ?_
    refine st4 _ ?_
    refine XS.iloadN X4.here hx rfl (hb hby d25_4) rfl ?_
    refine X4.aaload hx (j := (0 : Int32)) (v := (.ref a6)) (by rw [e4]; exact Ar8.1) (State.isArrayOf_alike hZ.alike Ar8.2.1) rfl Ar8.2.2 hin8 hat8 (g := (mkF m 5 #[vr a1, vi 0] [(.int 0), (.ref a2)])) rfl rfl (hb hby d25_5) _ ?_
    jvm_step X4.here [X4.here.top, hx, (hb hby d25_6), X4.method', Bd.returns, Value.isRef, FieldType.isReference]
    first | (intro acts; rw [hr _ acts rfl rfl rfl]) | rw [hr _ _ rfl rfl rfl]
    exact Steps.refl _
  · show Qrm25 Z a1 a2 k5 a6 h0 n0 _ T4.heap _
    rw [e4]
    exact ⟨rfl, N0, rfl⟩
theorem pd_27 : parseMethodDescriptor "(I)Ljava/lang/Object;" = some ⟨[.int], some (.object "java/lang/Object")⟩ := by decide +kernel
theorem d22_14 : decode jdk_38_method_20_code 14 = .ok (.areturn, 1) := by decide +kernel
theorem ef_22_RI (m : MethodId) (x0 : Addr) (x1 : Int32) : entryFrame m #[(.ref x0), (.int x1)] 2 = mkF m 0 #[vr x0, vi x1] [] := by first | (simp [entryFrame, mkF, argsToLocals, Value.category]; done) | rfl
def Qrm22 (Z : State) (a1 : Addr) (a6 : Addr) (k8 : ClassId) (a9 : Addr) (h0 : Heap) (n0 : Nat) (v : Option Value) (h : Heap) (L : List Loc) : Prop := v = some (.ref a9) ∧ Fr n0 L ∧ h = h0
set_option maxRecDepth 65536 in
set_option maxHeartbeats 40000000 in
theorem rm22 (l : Launch) (Z : State) (a0 : Array Value) (hw : ∀ d ∈ tables_1, d.before a0 Z = true) (ws : List Jvm.Cond) (a1 : Addr) (a6 : Addr) (k8 : ClassId) (a9 : Addr) (h0 : Heap) (n0 : Nat) (O0 : Old Z n0 h0) (F_2 : Fld Z h0 a1 "java/util/ArrayList" "size" "I" (.int 1)) (E_5 : Exa Z h0 a1 "java/util/ArrayList") (F_7 : Fld Z h0 a1 "java/util/ArrayList" "elementData" "[Ljava/lang/Object;" (.ref a6)) (V_10 : Arv Z h0 a6 k8 (.object "java/lang/Object") (10 : Int32) [(.ref a9)] .null) :
    MF l Z h0 (⟨"java/util/ArrayList", "get", "(I)Ljava/lang/Object;"⟩ : MethodName) jdk_38_method_20_code 2 (some (.object "java/lang/Object")) ws (⟨2, 0, 0, 27⟩ : Room) #[(.ref a1), (.int 0)] (Qrm22 Z a1 a6 k8 a9 h0 n0) := by
  refine MetFree.of_bodySF (plainFor_of_name pn_15) hisR ?_
  intro p e s m args below meth c s₁ Bd hml0 hP hK
  obtain ⟨rfl, hZ, hh⟩ := hP
  have hx := Bd.exec
  have hby := Bd.bytes
  have hml : c.maxLocals = 2 := hml0
  have hown : s.vm.findClass "java/util/ArrayList" = some m.cls := findClass_of_methodNamed Bd.named
  have X0 : Stand p l e (⟨2, 0, 0, 27⟩ : Room) s m #[(.ref a1), (.int 0)] below meth c s₁ [] 0 0 := Stand.of_body Bd
  have e0 : s₁.heap = h0 := by rw [← hh, Bd.state]; rfl
  have N0 := Fr.nil n0
  have pre0 : ∀ t, Steps p.tables e below (s₁.setTop (mkF m 0 #[vr a1, vi 0] [])) t → Steps p.tables e below (s₁.setTop (entryFrame m #[(.ref a1), (.int 0)] 2)) t := fun t k => castTop (ef_22_RI m a1 (0 : Int32)) k
  obtain ⟨T3, X3, e3, st3⟩ := getF X0 hx hZ hown (host := "") (Or.inl (W hw 75 rfl)) Via.refl e0 F_2 (g := (mkF m 2 #[vr a1, vi 0] [(.ref a1), (.int 0)])) rfl rfl (hb hby d22_2)
  obtain ⟨_, T4, L4, X4, hQ4, st4⟩ := cS X3 hx hZ hown (W hw 132 rfl) (W hw 133 rfl) (W hw 134 rfl) (W hw 135 rfl) (by decide) (rm23 l Z a0 hw []  h0 n0 O0 ) e3 #[vr a1, vi 0] [] (by rw [hml]; rfl) (hb hby d22_5) pd_16 rfl (W := 0) (Nat.le_of_eq rfl) (by decide) (by decide) (by decide) (by decide)
  obtain ⟨rfl, Nq4, e4⟩ := hQ4
  have N4 := Fr.app N0 Nq4
  obtain ⟨_, T11, L11, X11, hQ11, st11⟩ := cV X4 hx hZ hown (W hw 140 rfl) (W hw 141 rfl) (notFace_of_selects (args := #[]) (mvT hZ (W hw 143 rfl))) (W hw 143 rfl) (W hw 142 rfl) (W hw 144 rfl) (W hw 46 rfl) (by decide) (rm25 l Z a0 hw [] a1 a6 k8 a9 h0 n0 O0 F_7 V_10) e4 E_5 #[vr a1, vi 0] [] (by rw [hml]; rfl) (hb hby d22_11) pd_27 rfl (W := 0) (Nat.le_of_eq rfl) (by decide) (by decide) (by decide) (by decide)
  obtain ⟨rfl, Nq11, e11⟩ := hQ11
  have N11 := Fr.app N4 Nq11
  obtain ⟨fs, hr, hrun, hended, hW, hsame⟩ := X11.leave (v := some (.ref a9)) (fun h => by rw [Bd.returns] at h; cases h)
  refine ⟨_, _, pre0 _ ?_, hrun, hended, _, _, rfl, ?_, ⟨_, rfl⟩, hW, hsame.mono (by decide) (by decide)⟩
  · show Steps p.tables e below (s₁.setTop (mkF m 0 #[vr a1, vi 0] [])) _
    refine XS.iloadN X0.here hx rfl (hb hby d22_0) rfl ?_
    refine XS.aloadN X0.here hx rfl (hb hby d22_1) rfl rfl ?_
    refine st3 _ ?_
    refine st4 _ ?_
    refine XS.pop X4.here hx rfl (hb hby d22_8) rfl rfl ?_
    refine XS.aloadN X4.here hx rfl (hb hby d22_9) rfl rfl ?_
    refine XS.iloadN X4.here hx rfl (hb hby d22_10) rfl ?_
    refine st11 _ ?_
    jvm_step X11.here [X11.here.top, hx, (hb hby d22_14), X11.method', Bd.returns, Value.isRef, FieldType.isReference]
    first | (intro acts; rw [hr _ acts rfl rfl rfl]) | rw [hr _ _ rfl rfl rfl]
    exact Steps.refl _
  · show Qrm22 Z a1 a6 k8 a9 h0 n0 _ T11.heap _
    rw [e11]
    exact ⟨rfl, N11, rfl⟩
theorem d20_31 : decode prog_1_method_2_code 31 = .ok (.checkcast 27, 3) := by decide +kernel
theorem d20_34 : decode prog_1_method_2_code 34 = .ok (.astore_n 1, 1) := by decide +kernel
theorem d20_35 : decode prog_1_method_2_code 35 = .ok (.aload_n 1, 1) := by decide +kernel
theorem d20_36 : decode prog_1_method_2_code 36 = .ok (.ldc 29, 2) := by decide +kernel
theorem own_wS {Z : State} {a0 : Array Value} (hw : ∀ d ∈ tables_1, d.before a0 Z = true) : ∀ a ∈ Bundle.stringAtoms, a.before a0 Z = true := by
  intro a ha
  simp only [Bundle.stringAtoms, List.mem_cons, List.not_mem_nil, or_false] at ha
  rcases ha with rfl | rfl | rfl | rfl | rfl | rfl | rfl
  · exact (W hw 2 rfl)
  · exact (W hw 1 rfl)
  · exact (W hw 19 rfl)
  · exact (W hw 29 rfl)
  · exact (W hw 27 rfl)
  · exact (W hw 147 rfl)
  · exact (W hw 148 rfl)
theorem d20_38 : decode prog_1_method_2_code 38 = .ok (.invokevirtual 31, 3) := by decide +kernel
theorem d26_0 : decode jdk_42_method_66_code 0 = .ok (.aload_n 0, 1) := by decide +kernel
theorem d26_1 : decode jdk_42_method_66_code 1 = .ok (.aload_n 1, 1) := by decide +kernel
theorem d26_2 : decode jdk_42_method_66_code 2 = .ok (.if_acmp .ne 5, 3) := by decide +kernel
theorem d26_7 : decode jdk_42_method_66_code 7 = .ok (.aload_n 1, 1) := by decide +kernel
theorem d26_8 : decode jdk_42_method_66_code 8 = .ok (.instanceof 10, 3) := by decide +kernel
theorem d26_11 : decode jdk_42_method_66_code 11 = .ok (.ifCond .eq 43, 3) := by decide +kernel
theorem d26_14 : decode jdk_42_method_66_code 14 = .ok (.aload_n 1, 1) := by decide +kernel
theorem d26_15 : decode jdk_42_method_66_code 15 = .ok (.checkcast 10, 3) := by decide +kernel
theorem d26_18 : decode jdk_42_method_66_code 18 = .ok (.astore_n 2, 1) := by decide +kernel
theorem d26_19 : decode jdk_42_method_66_code 19 = .ok (.getstatic 38, 3) := by decide +kernel
theorem d26_22 : decode jdk_42_method_66_code 22 = .ok (.ifCond .eq 14, 3) := by decide +kernel
theorem d26_25 : decode jdk_42_method_66_code 25 = .ok (.aload_n 0, 1) := by decide +kernel
theorem d26_26 : decode jdk_42_method_66_code 26 = .ok (.getfield 15, 3) := by decide +kernel
theorem d26_29 : decode jdk_42_method_66_code 29 = .ok (.aload_n 2, 1) := by decide +kernel
theorem d26_30 : decode jdk_42_method_66_code 30 = .ok (.getfield 15, 3) := by decide +kernel
theorem d26_33 : decode jdk_42_method_66_code 33 = .ok (.if_icmp .ne 21, 3) := by decide +kernel
theorem d26_36 : decode jdk_42_method_66_code 36 = .ok (.aload_n 0, 1) := by decide +kernel
theorem d26_37 : decode jdk_42_method_66_code 37 = .ok (.getfield 9, 3) := by decide +kernel
theorem d26_40 : decode jdk_42_method_66_code 40 = .ok (.aload_n 2, 1) := by decide +kernel
theorem d26_41 : decode jdk_42_method_66_code 41 = .ok (.getfield 9, 3) := by decide +kernel
theorem d26_44 : decode jdk_42_method_66_code 44 = .ok (.invokestatic 541, 3) := by decide +kernel
theorem d27_0 : decode jdk_43_method_13_code 0 = .ok (.aload_n 0, 1) := by decide +kernel
theorem d27_1 : decode jdk_43_method_13_code 1 = .ok (.arraylength, 1) := by decide +kernel
theorem d27_2 : decode jdk_43_method_13_code 2 = .ok (.aload_n 1, 1) := by decide +kernel
theorem d27_3 : decode jdk_43_method_13_code 3 = .ok (.arraylength, 1) := by decide +kernel
theorem d27_4 : decode jdk_43_method_13_code 4 = .ok (.if_icmp .ne 30, 3) := by decide +kernel
theorem d27_7 : decode jdk_43_method_13_code 7 = .ok (.iconst 0, 1) := by decide +kernel
theorem d27_8 : decode jdk_43_method_13_code 8 = .ok (.istore_n 2, 1) := by decide +kernel
theorem d27_9 : decode jdk_43_method_13_code 9 = .ok (.iload_n 2, 1) := by decide +kernel
theorem d27_10 : decode jdk_43_method_13_code 10 = .ok (.aload_n 0, 1) := by decide +kernel
theorem d27_11 : decode jdk_43_method_13_code 11 = .ok (.arraylength, 1) := by decide +kernel
theorem d27_12 : decode jdk_43_method_13_code 12 = .ok (.if_icmp .ge 20, 3) := by decide +kernel
theorem d27_15 : decode jdk_43_method_13_code 15 = .ok (.aload_n 0, 1) := by decide +kernel
theorem d27_16 : decode jdk_43_method_13_code 16 = .ok (.iload_n 2, 1) := by decide +kernel
theorem d27_17 : decode jdk_43_method_13_code 17 = .ok (.baload, 1) := by decide +kernel
theorem d27_18 : decode jdk_43_method_13_code 18 = .ok (.aload_n 1, 1) := by decide +kernel
theorem d27_19 : decode jdk_43_method_13_code 19 = .ok (.iload_n 2, 1) := by decide +kernel
theorem d27_20 : decode jdk_43_method_13_code 20 = .ok (.baload, 1) := by decide +kernel
theorem d27_21 : decode jdk_43_method_13_code 21 = .ok (.if_icmp .eq 5, 3) := by decide +kernel
theorem d27_26 : decode jdk_43_method_13_code 26 = .ok (.iinc 2 1, 3) := by decide +kernel
theorem d27_29 : decode jdk_43_method_13_code 29 = .ok (.goto (-20), 3) := by decide +kernel
theorem d27_32 : decode jdk_43_method_13_code 32 = .ok (.iconst 1, 1) := by decide +kernel
theorem d27_33 : decode jdk_43_method_13_code 33 = .ok (.ireturn, 1) := by decide +kernel
theorem ef_27_RR (m : MethodId) (x0 : Addr) (x1 : Addr) : entryFrame m #[(.ref x0), (.ref x1)] 3 = mkF m 0 #[vr x0, vr x1, .unset] [] := by first | (simp [entryFrame, mkF, argsToLocals, Value.category]; done) | rfl
def Qrm27 (Z : State) (a1 : Addr) (a2 : Addr) (k3 : ClassId) (p4 : Int32) (p5 : Int32) (k8 : ClassId) (h0 : Heap) (n0 : Nat) (v : Option Value) (h : Heap) (L : List Loc) : Prop := v = some (.int 1) ∧ Fr n0 L ∧ h = h0
set_option maxRecDepth 65536 in
set_option maxHeartbeats 40000000 in
theorem rm27 (l : Launch) (Z : State) (a0 : Array Value) (hw : ∀ d ∈ tables_1, d.before a0 Z = true) (ws : List Jvm.Cond) (a1 : Addr) (a2 : Addr) (k3 : ClassId) (p4 : Int32) (p5 : Int32) (k8 : ClassId) (h0 : Heap) (n0 : Nat) (O0 : Old Z n0 h0) (V_6 : Arv Z h0 a1 k3 .byte (2 : Int32) [(.int p4), (.int p5)] (.int 0)) (V_9 : Arv Z h0 a2 k8 .byte (2 : Int32) [(.int 45), (.int 45)] (.int (0 : Int32))) (hc14 : p4 = (45 : Int32)) (hc18 : p5 = (45 : Int32)) :
    MF l Z h0 (⟨"java/lang/StringLatin1", "equals", "([B[B)Z"⟩ : MethodName) jdk_43_method_13_code 3 (some .boolean) ws (⟨0, 0, 0, 0⟩ : Room) #[(.ref a1), (.ref a2)] (Qrm27 Z a1 a2 k3 p4 p5 k8 h0 n0) := by
  refine MetFree.of_bodySF (plainFor_of_name pn_7) hisR ?_
  intro p e s m args below meth c s₁ Bd hml0 hP hK
  obtain ⟨rfl, hZ, hh⟩ := hP
  have hx := Bd.exec
  have hby := Bd.bytes
  have X0 : Stand p l e (⟨0, 0, 0, 0⟩ : Room) s m #[(.ref a1), (.ref a2)] below meth c s₁ [] 0 0 := Stand.of_body Bd
  have e0 : s₁.heap = h0 := by rw [← hh, Bd.state]; rfl
  have N0 := Fr.nil n0
  have pre0 : ∀ t, Steps p.tables e below (s₁.setTop (mkF m 0 #[vr a1, vr a2, .unset] [])) t → Steps p.tables e below (s₁.setTop (entryFrame m #[(.ref a1), (.ref a2)] 3)) t := fun t k => castTop (ef_27_RR m a1 a2) k
  obtain ⟨cl7, Ar7, q7, S7, M7, Hs7, G7⟩ := id V_6
  obtain ⟨cl10, Ar10, q10, S10, M10, Hs10, G10⟩ := id V_9
  obtain ⟨cl11, Ar11, q11, S11, M11, Hs11, G11⟩ := id V_6
  obtain ⟨cl12, Ar12, q12, S12, M12, Hs12, G12⟩ := id V_6
  have hin12 : ¬ ((0 : Int32) < 0 ∨ cl12.slots.size ≤ ((0 : Int32)).toNatClampNeg) := inb_of S12 ⟨by decide, by decide⟩
  have hat12 : cl12.slots[((0 : Int32)).toNatClampNeg]? = some (.int p4) := Has.at Hs12 hin12 rfl
  obtain ⟨cl13, Ar13, q13, S13, M13, Hs13, G13⟩ := id V_9
  have hin13 : ¬ ((0 : Int32) < 0 ∨ cl13.slots.size ≤ ((0 : Int32)).toNatClampNeg) := inb_of S13 ⟨by decide, by decide⟩
  have hat13 : cl13.slots[((0 : Int32)).toNatClampNeg]? = some (.int 45) := Has.at Hs13 hin13 rfl
  obtain ⟨cl15, Ar15, q15, S15, M15, Hs15, G15⟩ := id V_6
  obtain ⟨cl16, Ar16, q16, S16, M16, Hs16, G16⟩ := id V_6
  have hin16 : ¬ ((1 : Int32) < 0 ∨ cl16.slots.size ≤ ((1 : Int32)).toNatClampNeg) := inb_of S16 ⟨by decide, by decide⟩
  have hat16 : cl16.slots[((1 : Int32)).toNatClampNeg]? = some (.int p5) := Has.at Hs16 hin16 rfl
  obtain ⟨cl17, Ar17, q17, S17, M17, Hs17, G17⟩ := id V_9
  have hin17 : ¬ ((1 : Int32) < 0 ∨ cl17.slots.size ≤ ((1 : Int32)).toNatClampNeg) := inb_of S17 ⟨by decide, by decide⟩
  have hat17 : cl17.slots[((1 : Int32)).toNatClampNeg]? = some (.int 45) := Has.at Hs17 hin17 rfl
  obtain ⟨cl19, Ar19, q19, S19, M19, Hs19, G19⟩ := id V_6
  obtain ⟨fs, hr, hrun, hended, hW, hsame⟩ := X0.leave (v := some (.int 1)) (fun h => by rw [Bd.returns] at h; cases h)
  refine ⟨_, _, pre0 _ ?_, hrun, hended, _, _, rfl, ?_, ⟨_, rfl⟩, hW, hsame.mono (by decide) (by decide)⟩
  · show Steps p.tables e below (s₁.setTop (mkF m 0 #[vr a1, vr a2, .unset] [])) _
    refine XS.aloadN X0.here hx rfl (hb hby d27_0) rfl rfl ?_
    refine X0.arraylength hx (by rw [e0]; exact Ar7.1) (State.isArrayOf_alike hZ.alike Ar7.2.1) (g := (mkF m 1 #[vr a1, vr a2, .unset] [(.ref a1)])) rfl rfl (hb hby d27_1) _ ?_
    rw [len_of S7 M7]
    refine XS.aloadN X0.here hx rfl (hb hby d27_2) rfl rfl ?_
    refine X0.arraylength hx (by rw [e0]; exact Ar10.1) (State.isArrayOf_alike hZ.alike Ar10.2.1) (g := (mkF m 3 #[vr a1, vr a2, .unset] [(.ref a2), (.int 2)])) rfl rfl (hb hby d27_3) _ ?_
    rw [len_of S10 M10]
    refine XS.icmpNo X0.here hx rfl (hb hby d27_4) rfl (teq ((by decide) : (2 : Int32) = (2 : Int32))).2 ?_
    refine XS.iconst X0.here hx rfl (hb hby d27_7) ?_
    refine XS.istoreN X0.here hx rfl (hb hby d27_8) rfl (l' := #[vr a1, vr a2, vi 0]) rfl ?_
    refine XS.iloadN X0.here hx rfl (hb hby d27_9) rfl ?_
    show Steps p.tables e below (s₁.setTop (mkF m 10 #[vr a1, vr a2, vi 0] [(.int 0)])) _
    refine XS.aloadN X0.here hx rfl (hb hby d27_10) rfl rfl ?_
    refine X0.arraylength hx (by rw [e0]; exact Ar11.1) (State.isArrayOf_alike hZ.alike Ar11.2.1) (g := (mkF m 11 #[vr a1, vr a2, vi 0] [(.ref a1), (.int 0)])) rfl rfl (hb hby d27_11) _ ?_
    rw [len_of S11 M11]
    refine XS.icmpNo X0.here hx rfl (hb hby d27_12) rfl (tlt ((by decide) : (0 : Int32) < (2 : Int32))).2.1 ?_
    refine XS.aloadN X0.here hx rfl (hb hby d27_15) rfl rfl ?_
    refine XS.iloadN X0.here hx rfl (hb hby d27_16) rfl ?_
    refine X0.baloadBytes hx (j := (0 : Int32)) (v := (.int p4)) (by rw [e0]; exact Ar12.1) (State.isArrayOf_alike hZ.alike Ar12.2.1) Ar12.2.2 hin12 hat12 (g := (mkF m 17 #[vr a1, vr a2, vi 0] [(.int 0), (.ref a1)])) rfl rfl (hb hby d27_17) _ ?_
    refine XS.aloadN X0.here hx rfl (hb hby d27_18) rfl rfl ?_
    refine XS.iloadN X0.here hx rfl (hb hby d27_19) rfl ?_
    refine X0.baloadBytes hx (j := (0 : Int32)) (v := (.int 45)) (by rw [e0]; exact Ar13.1) (State.isArrayOf_alike hZ.alike Ar13.2.1) Ar13.2.2 hin13 hat13 (g := (mkF m 20 #[vr a1, vr a2, vi 0] [(.int 0), (.ref a2), (.int p4)])) rfl rfl (hb hby d27_20) _ ?_
    show Steps p.tables e below (s₁.setTop (mkF m 21 #[vr a1, vr a2, vi 0] [(.int 45), (.int p4)])) _
    refine XS.icmpYes X0.here hx rfl (pc0 := 21) (pc' := 26) rfl (hb hby d27_21) rfl (teq (hc14 : p4 = (45 : Int32))).1 (by decide) (by decide) ?_
    refine XS.iinc X0.here hx rfl (hb hby d27_26) rfl (l' := #[vr a1, vr a2, vi 1]) rfl ?_
    refine XS.goto X0.here hx rfl (pc0 := 29) (pc' := 9) rfl (hb hby d27_29) (by decide) (by decide) ?_
    refine XS.iloadN X0.here hx rfl (hb hby d27_9) rfl ?_
    refine XS.aloadN X0.here hx rfl (hb hby d27_10) rfl rfl ?_
    refine X0.arraylength hx (by rw [e0]; exact Ar15.1) (State.isArrayOf_alike hZ.alike Ar15.2.1) (g := (mkF m 11 #[vr a1, vr a2, vi 1] [(.ref a1), (.int 1)])) rfl rfl (hb hby d27_11) _ ?_
    rw [len_of S15 M15]
    refine XS.icmpNo X0.here hx rfl (hb hby d27_12) rfl (tlt ((by decide) : (1 : Int32) < (2 : Int32))).2.1 ?_
    refine XS.aloadN X0.here hx rfl (hb hby d27_15) rfl rfl ?_
    refine XS.iloadN X0.here hx rfl (hb hby d27_16) rfl ?_
    show Steps p.tables e below (s₁.setTop (mkF m 17 #[vr a1, vr a2, vi 1] [(.int 1), (.ref a1)])) _
    refine X0.baloadBytes hx (j := (1 : Int32)) (v := (.int p5)) (by rw [e0]; exact Ar16.1) (State.isArrayOf_alike hZ.alike Ar16.2.1) Ar16.2.2 hin16 hat16 (g := (mkF m 17 #[vr a1, vr a2, vi 1] [(.int 1), (.ref a1)])) rfl rfl (hb hby d27_17) _ ?_
    refine XS.aloadN X0.here hx rfl (hb hby d27_18) rfl rfl ?_
    refine XS.iloadN X0.here hx rfl (hb hby d27_19) rfl ?_
    refine X0.baloadBytes hx (j := (1 : Int32)) (v := (.int 45)) (by rw [e0]; exact Ar17.1) (State.isArrayOf_alike hZ.alike Ar17.2.1) Ar17.2.2 hin17 hat17 (g := (mkF m 20 #[vr a1, vr a2, vi 1] [(.int 1), (.ref a2), (.int p5)])) rfl rfl (hb hby d27_20) _ ?_
    refine XS.icmpYes X0.here hx rfl (pc0 := 21) (pc' := 26) rfl (hb hby d27_21) rfl (teq (hc18 : p5 = (45 : Int32))).1 (by decide) (by decide) ?_
    refine XS.iinc X0.here hx rfl (hb hby d27_26) rfl (l' := #[vr a1, vr a2, vi 2]) rfl ?_
    refine XS.goto X0.here hx rfl (pc0 := 29) (pc' := 9) rfl (hb hby d27_29) (by decide) (by decide) ?_
    refine XS.iloadN X0.here hx rfl (hb hby d27_9) rfl ?_
    refine XS.aloadN X0.here hx rfl (hb hby d27_10) rfl rfl ?_
    refine X0.arraylength hx (by rw [e0]; exact Ar19.1) (State.isArrayOf_alike hZ.alike Ar19.2.1) (g := (mkF m 11 #[vr a1, vr a2, vi 2] [(.ref a1), (.int 2)])) rfl rfl (hb hby d27_11) _ ?_
    rw [len_of S19 M19]
    show Steps p.tables e below (s₁.setTop (mkF m 12 #[vr a1, vr a2, vi 2] [(.int 2), (.int 2)])) _
    refine XS.icmpYes X0.here hx rfl (pc0 := 12) (pc' := 32) rfl (hb hby d27_12) rfl (flt ((by decide) : ¬ ((2 : Int32) < (2 : Int32)))).2.1 (by decide) (by decide) ?_
    refine XS.iconst X0.here hx rfl (hb hby d27_32) ?_
    exact retN X0 hx (t := .boolean) Bd.returns (by simp) (hb hby d27_33) hr
  · show Qrm27 Z a1 a2 k3 p4 p5 k8 h0 n0 _ s₁.heap _
    rw [e0]
    exact ⟨rfl, N0, rfl⟩
theorem pd_28 : parseMethodDescriptor "([B[B)Z" = some ⟨[(.array .byte), (.array .byte)], some .boolean⟩ := by decide +kernel
theorem d26_47 : decode jdk_42_method_66_code 47 = .ok (.ifCond .eq 7, 3) := by decide +kernel
theorem d26_50 : decode jdk_42_method_66_code 50 = .ok (.iconst 1, 1) := by decide +kernel
theorem d26_51 : decode jdk_42_method_66_code 51 = .ok (.goto 4, 3) := by decide +kernel
theorem d26_55 : decode jdk_42_method_66_code 55 = .ok (.ireturn, 1) := by decide +kernel
theorem ef_26_RR (m : MethodId) (x0 : Addr) (x1 : Addr) : entryFrame m #[(.ref x0), (.ref x1)] 3 = mkF m 0 #[vr x0, vr x1, .unset] [] := by first | (simp [entryFrame, mkF, argsToLocals, Value.category]; done) | rfl
def Qrm26 (Z : State) (a1 : Addr) (a2 : Addr) (p6 : Int32) (a14 : Addr) (a17 : Addr) (k20 : ClassId) (p21 : Int32) (p22 : Int32) (k24 : ClassId) (h0 : Heap) (n0 : Nat) (v : Option Value) (h : Heap) (L : List Loc) : Prop := v = some (.int 1) ∧ Fr n0 L ∧ h = h0
set_option maxRecDepth 65536 in
set_option maxHeartbeats 40000000 in
theorem rm26 (l : Launch) (Z : State) (a0 : Array Value) (hw : ∀ d ∈ tables_1, d.before a0 Z = true) (ws : List Jvm.Cond) (a1 : Addr) (a2 : Addr) (p6 : Int32) (a14 : Addr) (a17 : Addr) (k20 : ClassId) (p21 : Int32) (p22 : Int32) (k24 : ClassId) (h0 : Heap) (n0 : Nat) (O0 : Old Z n0 h0) (ne_a1_a2 : a1 ≠ a2) (E_3 : Exa Z h0 a2 "java/lang/String") (S_7 : Sta Z Z.heap "java/lang/String" "COMPACT_STRINGS" "Z" (.int p6)) (hc9 : ¬ (p6 = (0 : Int32))) (F_10 : Fld Z h0 a1 "java/lang/String" "coder" "B" (.int 0)) (F_12 : Fld Z h0 a2 "java/lang/String" "coder" "B" (.int 0)) (F_15 : Fld Z h0 a1 "java/lang/String" "value" "[B" (.ref a14)) (F_18 : Fld Z h0 a2 "java/lang/String" "value" "[B" (.ref a17)) (V_23 : Arv Z h0 a14 k20 .byte (2 : Int32) [(.int p21), (.int p22)] (.int 0)) (V_25 : Arv Z h0 a17 k24 .byte (2 : Int32) [(.int 45), (.int 45)] (.int (0 : Int32))) (hc26 : p21 = (45 : Int32)) (hc27 : p22 = (45 : Int32)) :
    MF l Z h0 (⟨"java/lang/String", "equals", "(Ljava/lang/Object;)Z"⟩ : MethodName) jdk_42_method_66_code 3 (some .boolean) ws (⟨1, 0, 0, 14⟩ : Room) #[(.ref a1), (.ref a2)] (Qrm26 Z a1 a2 p6 a14 a17 k20 p21 p22 k24 h0 n0) := by
  refine MetFree.of_bodySF (plainFor_of_name pn_4) hisR ?_
  intro p e s m args below meth c s₁ Bd hml0 hP hK
  obtain ⟨rfl, hZ, hh⟩ := hP
  have hx := Bd.exec
  have hby := Bd.bytes
  have hml : c.maxLocals = 3 := hml0
  have hown : s.vm.findClass "java/lang/String" = some m.cls := findClass_of_methodNamed Bd.named
  have X0 : Stand p l e (⟨1, 0, 0, 14⟩ : Room) s m #[(.ref a1), (.ref a2)] below meth c s₁ [] 0 0 := Stand.of_body Bd
  have e0 : s₁.heap = h0 := by rw [← hh, Bd.state]; rfl
  have N0 := Fr.nil n0
  have pre0 : ∀ t, Steps p.tables e below (s₁.setTop (mkF m 0 #[vr a1, vr a2, .unset] [])) t → Steps p.tables e below (s₁.setTop (entryFrame m #[(.ref a1), (.ref a2)] 3)) t := fun t k => castTop (ef_26_RR m a1 a2) k
  obtain ⟨T4, X4, e4, st4⟩ := instY X0 hx hZ hown (W hw 37 rfl) e0 (Ins.self E_3) (g := (mkF m 8 #[vr a1, vr a2, .unset] [(.ref a2)])) rfl rfl (hb hby d26_8)
  obtain ⟨T5, X5, e5, st5⟩ := castY X4 hx hZ hown (W hw 37 rfl) e4 (Ins.self E_3) (g := (mkF m 15 #[vr a1, vr a2, .unset] [(.ref a2)])) rfl rfl (hb hby d26_15)
  obtain ⟨T8, X8, e8, st8⟩ := getS2 X5 hx hZ hown (host := "") (Or.inl (W hw 14 rfl)) Via.refl e5 (S_7.ext O0.2) (g := (mkF m 19 #[vr a1, vr a2, vr a2] [])) rfl (hb hby d26_19)
  obtain ⟨T11, X11, e11, st11⟩ := getF X8 hx hZ hown (host := "") (Or.inl (W hw 26 rfl)) Via.refl e8 F_10 (g := (mkF m 26 #[vr a1, vr a2, vr a2] [(.ref a1)])) rfl rfl (hb hby d26_26)
  obtain ⟨T13, X13, e13, st13⟩ := getF X11 hx hZ hown (host := "") (Or.inl (W hw 26 rfl)) Via.refl e11 F_12 (g := (mkF m 30 #[vr a1, vr a2, vr a2] [(.ref a2), (.int 0)])) rfl rfl (hb hby d26_30)
  obtain ⟨T16, X16, e16, st16⟩ := getF X13 hx hZ hown (host := "") (Or.inl (W hw 28 rfl)) Via.refl e13 F_15 (g := (mkF m 37 #[vr a1, vr a2, vr a2] [(.ref a1)])) rfl rfl (hb hby d26_37)
  obtain ⟨T19, X19, e19, st19⟩ := getF X16 hx hZ hown (host := "") (Or.inl (W hw 28 rfl)) Via.refl e16 F_18 (g := (mkF m 41 #[vr a1, vr a2, vr a2] [(.ref a2), (.ref a14)])) rfl rfl (hb hby d26_41)
  obtain ⟨_, T28, L28, X28, hQ28, st28⟩ := cS X19 hx hZ hown (W hw 154 rfl) (W hw 155 rfl) (W hw 35 rfl) (W hw 156 rfl) (by decide) (rm27 l Z a0 hw [] a14 a17 k20 p21 p22 k24 h0 n0 O0 V_23 V_25 hc26 hc27) e19 #[vr a1, vr a2, vr a2] [] (by rw [hml]; rfl) (hb hby d26_44) pd_28 rfl (W := 0) (Nat.le_of_eq rfl) (by decide) (by decide) (by decide) (by decide)
  obtain ⟨rfl, Nq28, e28⟩ := hQ28
  have N28 := Fr.app N0 Nq28
  obtain ⟨fs, hr, hrun, hended, hW, hsame⟩ := X28.leave (v := some (.int 1)) (fun h => by rw [Bd.returns] at h; cases h)
  refine ⟨_, _, pre0 _ ?_, hrun, hended, _, _, rfl, ?_, ⟨_, rfl⟩, hW, hsame.mono (by decide) (by decide)⟩
  · show Steps p.tables e below (s₁.setTop (mkF m 0 #[vr a1, vr a2, .unset] [])) _
    refine XS.aloadN X0.here hx rfl (hb hby d26_0) rfl rfl ?_
    refine XS.aloadN X0.here hx rfl (hb hby d26_1) rfl rfl ?_
    refine Jvm.RoadKit.acmp (g := (mkF m 2 #[vr a1, vr a2, .unset] [(.ref a2), (.ref a1)])) X0 hx rfl rfl rfl (pc0 := 2) (pc' := 7) (same := false) rfl (hb hby d26_2) rfl (decide_eq_false fun q => ne_a1_a2 (Value.ref.inj q)) (by decide) (by decide) ?_
    refine XS.aloadN X0.here hx rfl (hb hby d26_7) rfl rfl ?_
    refine st4 _ ?_
    refine XS.ifNo X4.here hx rfl (hb hby d26_11) rfl ((if0 _ _).trans (feq ((by decide) : ¬ ((1 : Int32) = (0 : Int32)))).1) ?_
    refine XS.aloadN X4.here hx rfl (hb hby d26_14) rfl rfl ?_
    refine st5 _ ?_
    refine XS.astoreN X5.here hx rfl (hb hby d26_18) rfl rfl (l' := #[vr a1, vr a2, vr a2]) rfl ?_
    refine st8 _ ?_
    show Steps p.tables e below (T8.setTop (mkF m 22 #[vr a1, vr a2, vr a2] [(.int p6)])) _
    refine XS.ifNo X8.here hx rfl (hb hby d26_22) rfl ((if0 _ _).trans (feq (hc9 : ¬ (p6 = (0 : Int32)))).1) ?_
    refine XS.aloadN X8.here hx rfl (hb hby d26_25) rfl rfl ?_
    refine st11 _ ?_
    refine XS.aloadN X11.here hx rfl (hb hby d26_29) rfl rfl ?_
    refine st13 _ ?_
    refine XS.icmpNo X13.here hx rfl (hb hby d26_33) rfl (teq ((by decide) : (0 : Int32) = (0 : Int32))).2 ?_
    refine XS.aloadN X13.here hx rfl (hb hby d26_36) rfl rfl ?_
    refine st16 _ ?_
    refine XS.aloadN X16.here hx rfl (hb hby d26_40) rfl rfl ?_
    refine st19 _ ?_
    show Steps p.tables e below (T19.setTop (mkF m 44 #[vr a1, vr a2, vr a2] [(.ref a17), (.ref a14)])) _
    refine st28 _ ?_
    refine XS.ifNo X28.here hx rfl (hb hby d26_47) rfl ((if0 _ _).trans (feq ((by decide) : ¬ ((1 : Int32) = (0 : Int32)))).1) ?_
    refine XS.iconst X28.here hx rfl (hb hby d26_50) ?_
    refine XS.goto X28.here hx rfl (pc0 := 51) (pc' := 55) rfl (hb hby d26_51) (by decide) (by decide) ?_
    exact retN X28 hx (t := .boolean) Bd.returns (by simp) (hb hby d26_55) hr
  · show Qrm26 Z a1 a2 p6 a14 a17 k20 p21 p22 k24 h0 n0 _ T28.heap _
    rw [e28]
    exact ⟨rfl, N28, rfl⟩
theorem d20_41 : decode prog_1_method_2_code 41 = .ok (.ifCond .eq 15, 3) := by decide +kernel
theorem d20_44 : decode prog_1_method_2_code 44 = .ok (.aload_n 0, 1) := by decide +kernel
theorem d20_45 : decode prog_1_method_2_code 45 = .ok (.dup, 1) := by decide +kernel
theorem d20_46 : decode prog_1_method_2_code 46 = .ok (.getfield 13, 3) := by decide +kernel
theorem d20_49 : decode prog_1_method_2_code 49 = .ok (.iconst 1, 1) := by decide +kernel
theorem d20_50 : decode prog_1_method_2_code 50 = .ok (.iadd, 1) := by decide +kernel
theorem d20_51 : decode prog_1_method_2_code 51 = .ok (.putfield 13, 3) := by decide +kernel
theorem d20_54 : decode prog_1_method_2_code 54 = .ok (.aconst_null, 1) := by decide +kernel
theorem d20_55 : decode prog_1_method_2_code 55 = .ok (.areturn, 1) := by decide +kernel
theorem ef_20_R (m : MethodId) (x0 : Addr) : entryFrame m #[(.ref x0)] 3 = mkF m 0 #[vr x0, .unset, .unset] [] := by first | (simp [entryFrame, mkF, argsToLocals, Value.category]; done) | rfl
def Qrm20 (Z : State) (a1 : Addr) (a4 : Addr) (a12 : Addr) (k14 : ClassId) (a15 : Addr) (p21 : Int32) (a25 : Addr) (k27 : ClassId) (p28 : Int32) (p29 : Int32) (h0 : Heap) (n0 : Nat) (v : Option Value) (h : Heap) (L : List Loc) : Prop := v = some .null ∧ Fr n0 L ∧ Keep h0 h [a1] ∧ Fld Z h a1 "com/example/runqueue/runqueue/Arguments" "next" "I" (.int 1) ∧ Fld Z h a1 "com/example/runqueue/runqueue/Arguments" "args" "Ljava/util/List;" (.ref a4) ∧ Exa Z h a1 "com/example/runqueue/runqueue/Arguments" ∧ Fld Z h a1 "com/example/runqueue/runqueue/Arguments" "option" "Ljava/lang/String;" .null ∧ Fld Z h a1 "com/example/runqueue/runqueue/Arguments" "attached" "Ljava/lang/String;" .null
set_option maxRecDepth 65536 in
set_option maxHeartbeats 40000000 in
theorem rm20 (l : Launch) (Z : State) (a0 : Array Value) (hw : ∀ d ∈ tables_1, d.before a0 Z = true) (ws : List Jvm.Cond) (a1 : Addr) (a4 : Addr) (a12 : Addr) (k14 : ClassId) (a15 : Addr) (p21 : Int32) (a25 : Addr) (k27 : ClassId) (p28 : Int32) (p29 : Int32) (h0 : Heap) (n0 : Nat) (O0 : Old Z n0 h0) (F_2 : Fld Z h0 a1 "com/example/runqueue/runqueue/Arguments" "next" "I" (.int 0)) (F_5 : Fld Z h0 a1 "com/example/runqueue/runqueue/Arguments" "args" "Ljava/util/List;" (.ref a4)) (E_7 : Exa Z h0 a4 "java/util/ArrayList") (F_8 : Fld Z h0 a4 "java/util/ArrayList" "size" "I" (.int 1)) (F_13 : Fld Z h0 a4 "java/util/ArrayList" "elementData" "[Ljava/lang/Object;" (.ref a12)) (V_16 : Arv Z h0 a12 k14 (.object "java/lang/Object") (10 : Int32) [(.ref a15)] .null) (E_18 : Exa Z h0 a15 "java/lang/String") (g_a15 : n0 ≤ a15) (S_22 : Sta Z Z.heap "java/lang/String" "COMPACT_STRINGS" "Z" (.int p21)) (hc23 : ¬ (p21 = (0 : Int32))) (F_24 : Fld Z h0 a15 "java/lang/String" "coder" "B" (.int 0)) (F_26 : Fld Z h0 a15 "java/lang/String" "value" "[B" (.ref a25)) (V_30 : Arv Z h0 a25 k27 .byte (2 : Int32) [(.int p28), (.int p29)] (.int 0)) (hc31 : p28 = (45 : Int32)) (hc32 : p29 = (45 : Int32)) (E_40 : Exa Z h0 a1 "com/example/runqueue/runqueue/Arguments") (g_a1 : n0 ≤ a1) (F_43 : Fld Z h0 a1 "com/example/runqueue/runqueue/Arguments" "option" "Ljava/lang/String;" .null) (F_44 : Fld Z h0 a1 "com/example/runqueue/runqueue/Arguments" "attached" "Ljava/lang/String;" .null) :
    MetFree l (⟨"com/example/runqueue/runqueue/Arguments", "nextOption", "()Ljava/lang/String;"⟩ : MethodName) (head1 (Jvm.Cond.code (⟨"com/example/runqueue/runqueue/Arguments", "nextOption", "()Ljava/lang/String;"⟩ : MethodName) prog_1_method_2_code 3 (some (.object "java/lang/String")) :: ws) (⟨3, 2, 12, 40⟩ : Room)) (fun a U => a = #[(.ref a1)] ∧ Z.Warmed39 U.vm ∧ U.heap = h0 ∧ own_CH Z own_EL n0 U.vm h0) (fun _ _ _ _ _ => True) (fun _ U o U' => ∃ v L, o = .returned v ∧ Qrm20 Z a1 a4 a12 k14 a15 p21 a25 k27 p28 p29 h0 n0 v U'.heap L ∧ ReturnedEndW U o U' L (⟨3, 2, 12, 40⟩ : Room).cells (⟨3, 2, 12, 40⟩ : Room).slots) := by
  refine MetFree.of_bodySF (plainFor_of_name pn_21) hisR ?_
  intro p e s m args below meth c s₁ Bd hml0 hP hK
  obtain ⟨rfl, hZ, hh, hCH⟩ := hP
  have hx := Bd.exec
  have hby := Bd.bytes
  have hml : c.maxLocals = 3 := hml0
  have hown : s.vm.findClass "com/example/runqueue/runqueue/Arguments" = some m.cls := findClass_of_methodNamed Bd.named
  have X0 : Stand p l e (⟨3, 2, 12, 40⟩ : Room) s m #[(.ref a1)] below meth c s₁ [] 0 0 := Stand.of_body Bd
  have e0 : s₁.heap = h0 := by rw [← hh, Bd.state]; rfl
  have N0 := Fr.nil n0
  have pre0 : ∀ t, Steps p.tables e below (s₁.setTop (mkF m 0 #[vr a1, .unset, .unset] [])) t → Steps p.tables e below (s₁.setTop (entryFrame m #[(.ref a1)] 3)) t := fun t k => castTop (ef_20_R m a1) k
  have CS0 : own_CS Z own_EL n0 h0.size s.vm h0 := own_CS.start hCH
  have hS0 : s.Since s.vm 0 := (State.WarmedH.refl s).since 0
  obtain ⟨T3, X3, e3, st3⟩ := getF X0 hx hZ hown (host := "") (Or.inl (W hw 113 rfl)) Via.refl e0 F_2 (g := (mkF m 1 #[vr a1, .unset, .unset] [(.ref a1)])) rfl rfl (hb hby d20_1)
  obtain ⟨T6, X6, e6, st6⟩ := getF X3 hx hZ hown (host := "") (Or.inl (W hw 106 rfl)) Via.refl e3 F_5 (g := (mkF m 5 #[vr a1, .unset, .unset] [(.ref a1), (.int 0)])) rfl rfl (hb hby d20_5)
  obtain ⟨_, T9, L9, X9, hQ9, st9⟩ := cF X6 hx hZ hown (W hw 115 rfl) (W hw 116 rfl) (mvT hZ (W hw 117 rfl)) (W hw 118 rfl) (W hw 119 rfl) (W hw 120 rfl) (W hw 121 rfl) (W hw 122 rfl) (W hw 123 rfl) (W hw 46 rfl) (by decide) (rm21 l Z a0 hw [] a4 h0 n0 O0 F_8) e6 E_7 #[vr a1, .unset, .unset] [(.int 0)] (by rw [hml]; rfl) (hb hby d20_8) pd_23 rfl (W := 1) (Nat.le_of_eq rfl) (by decide) (by decide) (by decide) (by decide)
  obtain ⟨rfl, Nq9, e9⟩ := hQ9
  have N9 := Fr.app N0 Nq9
  obtain ⟨T10, X10, e10, st10⟩ := getF X9 hx hZ hown (host := "") (Or.inl (W hw 106 rfl)) Via.refl e9 F_5 (g := (mkF m 19 #[vr a1, .unset, .unset] [(.ref a1)])) rfl rfl (hb hby d20_19)
  obtain ⟨T11, X11, e11, st11⟩ := getF X10 hx hZ hown (host := "") (Or.inl (W hw 113 rfl)) Via.refl e10 F_2 (g := (mkF m 23 #[vr a1, .unset, .unset] [(.ref a1), (.ref a4)])) rfl rfl (hb hby d20_23)
  obtain ⟨_, T17, L17, X17, hQ17, st17⟩ := cF X11 hx hZ hown (W hw 124 rfl) (W hw 125 rfl) (mvT hZ (W hw 126 rfl)) (W hw 127 rfl) (W hw 128 rfl) (W hw 129 rfl) (W hw 130 rfl) (W hw 122 rfl) (W hw 131 rfl) (W hw 46 rfl) (by decide) (rm22 l Z a0 hw [] a4 a12 k14 a15 h0 n0 O0 F_8 E_7 F_13 V_16) e11 E_7 #[vr a1, .unset, .unset] [] (by rw [hml]; rfl) (hb hby d20_26) pd_27 rfl (W := 0) (Nat.le_of_eq rfl) (by decide) (by decide) (by decide) (by decide)
  obtain ⟨rfl, Nq17, e17⟩ := hQ17
  have N17 := Fr.app N9 Nq17
  obtain ⟨T19, X19, e19, st19⟩ := castY X17 hx hZ hown (W hw 145 rfl) e17 (Ins.self E_18) (g := (mkF m 31 #[vr a1, .unset, .unset] [(.ref a15)])) rfl rfl (hb hby d20_31)
  obtain ⟨b20, T20, h20, k20, bb20, kk20, X20, e20, E20, hS20, hk20, hZ20, hown20, La20, Lc20, Lv20, Lb20, -, -, hC20, -, hne20, st20⟩ := ldcCH (s := s) (vm0 := s.vm) X19 hx hZ hown (W hw 146 rfl) (own_wS hw) e19 hS0 (Nat.zero_le _) (own_EW hw) (List.mem_of_getElem? (i := 0) rfl) CS0.1 (vs := [(.int 45), (.int 45)]) (z := (2 : Int32)) own_lt0 (by decide) (by decide) (g := (mkF m 36 #[vr a1, vr a15, .unset] [(.ref a15)])) rfl (hb hby d20_36) (n := 8) (by decide) (by decide) (by decide) (by decide)
  have CS20 := CS0.ldc hC20 (Keep.refl h0 [a1]).1
  have K20 := (Keep.refl h0 [a1]).ext E20
  have O20 := O0.ext E20
  have f33 := (F_24.ext E20)
  have f34 := (F_26.ext E20)
  have f35 := (V_30.ext E20)
  have f37 := (E_18.ext E20)
  obtain ⟨_, T36, L36, X36, hQ36, st36⟩ := cV X20 hx hZ20 hown20 (W hw 149 rfl) (W hw 150 rfl) (notFace_of_selects (args := #[]) (mvT hZ20 (W hw 152 rfl))) (W hw 152 rfl) (W hw 151 rfl) (W hw 153 rfl) (W hw 2 rfl) (by decide) (rm26 l Z a0 hw [] a15 b20 p21 a25 bb20 k27 p28 p29 kk20 h20 n0 O20 (hne20 a15 (CS20.2 a15 g_a15 E_18.lt)).1 La20 S_22 hc23 f33 Lc20 f34 Lv20 f35 Lb20 hc31 hc32) e20 f37 #[vr a1, vr a15, .unset] [] (by rw [hml]; rfl) (hb hby d20_38) pd_20 rfl (W := 0) (Nat.le_of_eq rfl) (by decide) (by decide) (by decide) (by decide)
  obtain ⟨rfl, Nq36, e36⟩ := hQ36
  have N36 := Fr.app N17 Nq36
  have f38 := (F_2.ext E20)
  obtain ⟨T39, X39, e39, st39⟩ := getF X36 hx hZ20 hown20 (host := "") (Or.inl (W hw 113 rfl)) Via.refl e36 f38 (g := (mkF m 46 #[vr a1, vr a15, .unset] [(.ref a1), (.ref a1)])) rfl rfl (hb hby d20_46)
  have f41 := (E_40.ext E20)
  obtain ⟨T42, h42, X42, e42, W42, st42⟩ := putF X39 hx hZ20 hown20 (host := "") (Or.inl (W hw 113 rfl)) Via.refl e39 f38 f41 (Or.inl (W hw 114 rfl)) (W hw 100 rfl) (ty := .int) (by decide) rfl rfl (g := (mkF m 51 #[vr a1, vr a15, .unset] [(.int 1), (.ref a1)])) rfl rfl (hb hby d20_51)
  have K42 := K20.wr W42 (Or.inl (List.mem_of_getElem? (i := 0) rfl))
  have N42 := Fr.snoc X42 N36 g_a1
  have Fw42 := f38.same W42
  have f45 := ((F_5.ext E20).other W42 (Or.inr (slot_ne (Or.inr (W hw 107 rfl)) (Or.inl (W hw 114 rfl)) (by decide) (t := (.object "java/util/List")) (t' := .int) (by decide) (by decide))))
  have f46 := (f41.wr W42)
  have f47 := ((F_43.ext E20).other W42 (Or.inr (slot_ne (Or.inl (W hw 211 rfl)) (Or.inl (W hw 114 rfl)) (by decide) (t := (.object "java/lang/String")) (t' := .int) (by decide) (by decide))))
  have f48 := ((F_44.ext E20).other W42 (Or.inr (slot_ne (Or.inl (W hw 213 rfl)) (Or.inl (W hw 114 rfl)) (by decide) (t := (.object "java/lang/String")) (t' := .int) (by decide) (by decide))))
  obtain ⟨fs, hr, hrun, hended, hREW⟩ := X42.leaveW (s := s) hS20 (by rw [e42]; exact (Nat.le_trans hk20 (Keep.of_wr W42).1)) (v := some .null) (fun h => by rw [Bd.returns] at h; cases h)
  refine ⟨_, _, pre0 _ ?_, hrun, hended, _, _, rfl, ?_, hREW.1, hREW.2.1, hREW.2.2.1, hREW.2.2.2.mono (by decide) (by decide)⟩
  · show Steps p.tables e below (s₁.setTop (mkF m 0 #[vr a1, .unset, .unset] [])) _
    refine XS.aloadN X0.here hx rfl (hb hby d20_0) rfl rfl ?_
    refine st3 _ ?_
    refine XS.aloadN X3.here hx rfl (hb hby d20_4) rfl rfl ?_
    refine st6 _ ?_
    refine st9 _ ?_
    refine XS.icmpYes X9.here hx rfl (pc0 := 13) (pc' := 18) rfl (hb hby d20_13) rfl (feq ((by decide) : ¬ ((0 : Int32) = (1 : Int32)))).2 (by decide) (by decide) ?_
    refine XS.aloadN X9.here hx rfl (hb hby d20_18) rfl rfl ?_
    refine st10 _ ?_
    refine XS.aloadN X10.here hx rfl (hb hby d20_22) rfl rfl ?_
    refine st11 _ ?_
    show Steps p.tables e below (T11.setTop (mkF m 26 #[vr a1, .unset, .unset] [(.int 0), (.ref a4)])) _
    refine st17 _ ?_
    refine st19 _ ?_
    refine XS.astoreN X19.here hx rfl (hb hby d20_34) rfl rfl (l' := #[vr a1, vr a15, .unset]) rfl ?_
    refine XS.aloadN X19.here hx rfl (hb hby d20_35) rfl rfl ?_
    refine st20 _ ?_
    refine st36 _ ?_
    refine XS.ifNo X36.here hx rfl (hb hby d20_41) rfl ((if0 _ _).trans (feq ((by decide) : ¬ ((1 : Int32) = (0 : Int32)))).1) ?_
    refine XS.aloadN X36.here hx rfl (hb hby d20_44) rfl rfl ?_
    refine XS.dup X36.here hx rfl (hb hby d20_45) rfl rfl ?_
    refine st39 _ ?_
    show Steps p.tables e below (T39.setTop (mkF m 49 #[vr a1, vr a15, .unset] [(.int 0), (.ref a1)])) _
    refine XS.iconst X39.here hx rfl (hb hby d20_49) ?_
    refine XS.iadd X39.here hx rfl (hb hby d20_50) rfl ?_
    show Steps p.tables e below (T39.setTop (mkF m 51 #[vr a1, vr a15, .unset] [(.int ((0 : Int32) + (1 : Int32))), (.ref a1)])) _
    rw [show ((0 : Int32) + (1 : Int32)) = (1 : Int32) from by decide]
    refine st42 _ ?_
    refine XS.aconstNull X42.here hx rfl (hb hby d20_54) ?_
    jvm_step X42.here [X42.here.top, hx, (hb hby d20_55), X42.method', Bd.returns, Value.isRef, FieldType.isReference]
    first | (intro acts; rw [hr _ acts rfl rfl rfl]) | rw [hr _ _ rfl rfl rfl]
    exact Steps.refl _
  · show Qrm20 Z a1 a4 a12 k14 a15 p21 a25 k27 p28 p29 h0 n0 _ T42.heap _
    rw [e42]
    exact ⟨rfl, N42, K42, Fw42, f45, f46, f47, f48⟩
theorem pd_29 : parseMethodDescriptor "()Ljava/lang/String;" = some ⟨[], some (.object "java/lang/String")⟩ := by decide +kernel
theorem d40_0 : decode prog_1_method_4_code 0 = .ok (.aload_n 0, 1) := by decide +kernel
theorem d40_1 : decode prog_1_method_4_code 1 = .ok (.getfield 56, 3) := by decide +kernel
theorem d40_4 : decode prog_1_method_4_code 4 = .ok (.ifnull 20, 3) := by decide +kernel
theorem d40_24 : decode prog_1_method_4_code 24 = .ok (.iconst 1, 1) := by decide +kernel
theorem d40_25 : decode prog_1_method_4_code 25 = .ok (.ireturn, 1) := by decide +kernel
theorem ef_40_R (m : MethodId) (x0 : Addr) : entryFrame m #[(.ref x0)] 1 = mkF m 0 #[vr x0] [] := by first | (simp [entryFrame, mkF, argsToLocals, Value.category]; done) | rfl
def Qrm40 (Z : State) (a1 : Addr) (h0 : Heap) (n0 : Nat) (v : Option Value) (h : Heap) (L : List Loc) : Prop := v = some (.int 1) ∧ Fr n0 L ∧ h = h0
set_option maxRecDepth 65536 in
set_option maxHeartbeats 40000000 in
theorem rm40 (l : Launch) (Z : State) (a0 : Array Value) (hw : ∀ d ∈ tables_1, d.before a0 Z = true) (ws : List Jvm.Cond) (a1 : Addr) (h0 : Heap) (n0 : Nat) (O0 : Old Z n0 h0) (F_2 : Fld Z h0 a1 "com/example/runqueue/runqueue/Arguments" "attached" "Ljava/lang/String;" .null) :
    MF l Z h0 (⟨"com/example/runqueue/runqueue/Arguments", "flag", "()Z"⟩ : MethodName) prog_1_method_4_code 1 (some .boolean) ws (⟨0, 0, 0, 0⟩ : Room) #[(.ref a1)] (Qrm40 Z a1 h0 n0) := by
  refine MetFree.of_bodySF (plainFor_of_name pn_21) hisR ?_
  intro p e s m args below meth c s₁ Bd hml0 hP hK
  obtain ⟨rfl, hZ, hh⟩ := hP
  have hx := Bd.exec
  have hby := Bd.bytes
  have hown : s.vm.findClass "com/example/runqueue/runqueue/Arguments" = some m.cls := findClass_of_methodNamed Bd.named
  have X0 : Stand p l e (⟨0, 0, 0, 0⟩ : Room) s m #[(.ref a1)] below meth c s₁ [] 0 0 := Stand.of_body Bd
  have e0 : s₁.heap = h0 := by rw [← hh, Bd.state]; rfl
  have N0 := Fr.nil n0
  have pre0 : ∀ t, Steps p.tables e below (s₁.setTop (mkF m 0 #[vr a1] [])) t → Steps p.tables e below (s₁.setTop (entryFrame m #[(.ref a1)] 1)) t := fun t k => castTop (ef_40_R m a1) k
  obtain ⟨T3, X3, e3, st3⟩ := getF X0 hx hZ hown (host := "") (Or.inl (W hw 212 rfl)) Via.refl e0 F_2 (g := (mkF m 1 #[vr a1] [(.ref a1)])) rfl rfl (hb hby d40_1)
  obtain ⟨fs, hr, hrun, hended, hW, hsame⟩ := X3.leave (v := some (.int 1)) (fun h => by rw [Bd.returns] at h; cases h)
  refine ⟨_, _, pre0 _ ?_, hrun, hended, _, _, rfl, ?_, ⟨_, rfl⟩, hW, hsame.mono (by decide) (by decide)⟩
  · show Steps p.tables e below (s₁.setTop (mkF m 0 #[vr a1] [])) _
    refine XS.aloadN X0.here hx rfl (hb hby d40_0) rfl rfl ?_
    refine st3 _ ?_
    refine XS.ifnullYes X3.here hx rfl (pc0 := 4) (pc' := 24) rfl (hb hby d40_4) rfl (by decide) (by decide) ?_
    refine XS.iconst X3.here hx rfl (hb hby d40_24) ?_
    exact retN X3 hx (t := .boolean) Bd.returns (by simp) (hb hby d40_25) hr
  · show Qrm40 Z a1 h0 n0 _ T3.heap _
    rw [e3]
    exact ⟨rfl, N0, rfl⟩
theorem pd_30 : parseMethodDescriptor "()Z" = some ⟨[], some .boolean⟩ := by decide +kernel
theorem d41_0 : decode prog_1_method_10_code 0 = .ok (.aload_n 0, 1) := by decide +kernel
theorem d41_1 : decode prog_1_method_10_code 1 = .ok (.getfield 7, 3) := by decide +kernel
theorem d41_4 : decode prog_1_method_10_code 4 = .ok (.invokeinterface 17 1, 5) := by decide +kernel
theorem d41_9 : decode prog_1_method_10_code 9 = .ok (.aload_n 0, 1) := by decide +kernel
theorem d41_10 : decode prog_1_method_10_code 10 = .ok (.getfield 13, 3) := by decide +kernel
theorem d41_13 : decode prog_1_method_10_code 13 = .ok (.isub, 1) := by decide +kernel
theorem d41_14 : decode prog_1_method_10_code 14 = .ok (.iconst 1, 1) := by decide +kernel
theorem d41_15 : decode prog_1_method_10_code 15 = .ok (.if_icmp .le 35, 3) := by decide +kernel
theorem d41_50 : decode prog_1_method_10_code 50 = .ok (.aload_n 0, 1) := by decide +kernel
theorem d41_51 : decode prog_1_method_10_code 51 = .ok (.getfield 13, 3) := by decide +kernel
theorem d41_54 : decode prog_1_method_10_code 54 = .ok (.aload_n 0, 1) := by decide +kernel
theorem d41_55 : decode prog_1_method_10_code 55 = .ok (.getfield 7, 3) := by decide +kernel
theorem d41_58 : decode prog_1_method_10_code 58 = .ok (.invokeinterface 17 1, 5) := by decide +kernel
theorem d41_63 : decode prog_1_method_10_code 63 = .ok (.if_icmp .ge 22, 3) := by decide +kernel
theorem d41_85 : decode prog_1_method_10_code 85 = .ok (.aconst_null, 1) := by decide +kernel
theorem d41_86 : decode prog_1_method_10_code 86 = .ok (.areturn, 1) := by decide +kernel
theorem ef_41_RR (m : MethodId) (x0 : Addr) (x1 : Addr) : entryFrame m #[(.ref x0), (.ref x1)] 2 = mkF m 0 #[vr x0, vr x1] [] := by first | (simp [entryFrame, mkF, argsToLocals, Value.category]; done) | rfl
def Qrm41 (Z : State) (a1 : Addr) (a2 : Addr) (a3 : Addr) (h0 : Heap) (n0 : Nat) (v : Option Value) (h : Heap) (L : List Loc) : Prop := v = some .null ∧ Fr n0 L ∧ h = h0
set_option maxRecDepth 65536 in
set_option maxHeartbeats 40000000 in
theorem rm41 (l : Launch) (Z : State) (a0 : Array Value) (hw : ∀ d ∈ tables_1, d.before a0 Z = true) (ws : List Jvm.Cond) (a1 : Addr) (a2 : Addr) (a3 : Addr) (h0 : Heap) (n0 : Nat) (O0 : Old Z n0 h0) (F_4 : Fld Z h0 a1 "com/example/runqueue/runqueue/Arguments" "args" "Ljava/util/List;" (.ref a3)) (E_6 : Exa Z h0 a3 "java/util/ArrayList") (F_7 : Fld Z h0 a3 "java/util/ArrayList" "size" "I" (.int 1)) (F_9 : Fld Z h0 a1 "com/example/runqueue/runqueue/Arguments" "next" "I" (.int 1)) :
    MF l Z h0 (⟨"com/example/runqueue/runqueue/Arguments", "lastOperand", "(Ljava/lang/String;)Ljava/lang/String;"⟩ : MethodName) prog_1_method_10_code 2 (some (.object "java/lang/String")) ws (⟨1, 0, 0, 13⟩ : Room) #[(.ref a1), (.ref a2)] (Qrm41 Z a1 a2 a3 h0 n0) := by
  refine MetFree.of_bodySF (plainFor_of_name pn_21) hisR ?_
  intro p e s m args below meth c s₁ Bd hml0 hP hK
  obtain ⟨rfl, hZ, hh⟩ := hP
  have hx := Bd.exec
  have hby := Bd.bytes
  have hml : c.maxLocals = 2 := hml0
  have hown : s.vm.findClass "com/example/runqueue/runqueue/Arguments" = some m.cls := findClass_of_methodNamed Bd.named
  have X0 : Stand p l e (⟨1, 0, 0, 13⟩ : Room) s m #[(.ref a1), (.ref a2)] below meth c s₁ [] 0 0 := Stand.of_body Bd
  have e0 : s₁.heap = h0 := by rw [← hh, Bd.state]; rfl
  have N0 := Fr.nil n0
  have pre0 : ∀ t, Steps p.tables e below (s₁.setTop (mkF m 0 #[vr a1, vr a2] [])) t → Steps p.tables e below (s₁.setTop (entryFrame m #[(.ref a1), (.ref a2)] 2)) t := fun t k => castTop (ef_41_RR m a1 a2) k
  obtain ⟨T5, X5, e5, st5⟩ := getF X0 hx hZ hown (host := "") (Or.inl (W hw 106 rfl)) Via.refl e0 F_4 (g := (mkF m 1 #[vr a1, vr a2] [(.ref a1)])) rfl rfl (hb hby d41_1)
  obtain ⟨_, T8, L8, X8, hQ8, st8⟩ := cF X5 hx hZ hown (W hw 115 rfl) (W hw 116 rfl) (mvT hZ (W hw 117 rfl)) (W hw 118 rfl) (W hw 119 rfl) (W hw 120 rfl) (W hw 121 rfl) (W hw 122 rfl) (W hw 123 rfl) (W hw 46 rfl) (by decide) (rm21 l Z a0 hw [] a3 h0 n0 O0 F_7) e5 E_6 #[vr a1, vr a2] [] (by rw [hml]; rfl) (hb hby d41_4) pd_23 rfl (W := 0) (Nat.le_of_eq rfl) (by decide) (by decide) (by decide) (by decide)
  obtain ⟨rfl, Nq8, e8⟩ := hQ8
  have N8 := Fr.app N0 Nq8
  obtain ⟨T10, X10, e10, st10⟩ := getF X8 hx hZ hown (host := "") (Or.inl (W hw 113 rfl)) Via.refl e8 F_9 (g := (mkF m 10 #[vr a1, vr a2] [(.ref a1), (.int 1)])) rfl rfl (hb hby d41_10)
  obtain ⟨T11, X11, e11, st11⟩ := getF X10 hx hZ hown (host := "") (Or.inl (W hw 113 rfl)) Via.refl e10 F_9 (g := (mkF m 51 #[vr a1, vr a2] [(.ref a1)])) rfl rfl (hb hby d41_51)
  obtain ⟨T12, X12, e12, st12⟩ := getF X11 hx hZ hown (host := "") (Or.inl (W hw 106 rfl)) Via.refl e11 F_4 (g := (mkF m 55 #[vr a1, vr a2] [(.ref a1), (.int 1)])) rfl rfl (hb hby d41_55)
  obtain ⟨_, T13, L13, X13, hQ13, st13⟩ := cF X12 hx hZ hown (W hw 115 rfl) (W hw 116 rfl) (mvT hZ (W hw 117 rfl)) (W hw 118 rfl) (W hw 119 rfl) (W hw 120 rfl) (W hw 121 rfl) (W hw 122 rfl) (W hw 123 rfl) (W hw 46 rfl) (by decide) (rm21 l Z a0 hw [] a3 h0 n0 O0 F_7) e12 E_6 #[vr a1, vr a2] [(.int 1)] (by rw [hml]; rfl) (hb hby d41_58) pd_23 rfl (W := 1) (Nat.le_of_eq rfl) (by decide) (by decide) (by decide) (by decide)
  obtain ⟨rfl, Nq13, e13⟩ := hQ13
  have N13 := Fr.app N8 Nq13
  obtain ⟨fs, hr, hrun, hended, hW, hsame⟩ := X13.leave (v := some .null) (fun h => by rw [Bd.returns] at h; cases h)
  refine ⟨_, _, pre0 _ ?_, hrun, hended, _, _, rfl, ?_, ⟨_, rfl⟩, hW, hsame.mono (by decide) (by decide)⟩
  · show Steps p.tables e below (s₁.setTop (mkF m 0 #[vr a1, vr a2] [])) _
    refine XS.aloadN X0.here hx rfl (hb hby d41_0) rfl rfl ?_
    refine st5 _ ?_
    refine st8 _ ?_
    refine XS.aloadN X8.here hx rfl (hb hby d41_9) rfl rfl ?_
    refine st10 _ ?_
    refine XS.isub X10.here hx rfl (hb hby d41_13) rfl ?_
    show Steps p.tables e below (T10.setTop (mkF m 14 #[vr a1, vr a2] [(.int ((1 : Int32) - (1 : Int32)))])) _
    rw [show ((1 : Int32) - (1 : Int32)) = (0 : Int32) from by decide]
    refine XS.iconst X10.here hx rfl (hb hby d41_14) ?_
    refine XS.icmpYes X10.here hx rfl (pc0 := 15) (pc' := 50) rfl (hb hby d41_15) rfl (flt ((by decide) : ¬ ((1 : Int32) < (0 : Int32)))).2.2.2 (by decide) (by decide) ?_
    refine XS.aloadN X10.here hx rfl (hb hby d41_50) rfl rfl ?_
    refine st11 _ ?_
    refine XS.aloadN X11.here hx rfl (hb hby d41_54) rfl rfl ?_
    refine st12 _ ?_
    refine st13 _ ?_
    refine XS.icmpYes X13.here hx rfl (pc0 := 63) (pc' := 85) rfl (hb hby d41_63) rfl (flt ((by decide) : ¬ ((1 : Int32) < (1 : Int32)))).2.1 (by decide) (by decide) ?_
    refine XS.aconstNull X13.here hx rfl (hb hby d41_85) ?_
    show Steps p.tables e below (T13.setTop (mkF m 86 #[vr a1, vr a2] [.null])) _
    jvm_step X13.here [X13.here.top, hx, (hb hby d41_86), X13.method', Bd.returns, Value.isRef, FieldType.isReference]
    first | (intro acts; rw [hr _ acts rfl rfl rfl]) | rw [hr _ _ rfl rfl rfl]
    exact Steps.refl _
  · show Qrm41 Z a1 a2 a3 h0 n0 _ T13.heap _
    rw [e13]
    exact ⟨rfl, N13, rfl⟩
theorem pd_31 : parseMethodDescriptor "(Ljava/lang/String;)Ljava/lang/String;" = some ⟨[(.object "java/lang/String")], some (.object "java/lang/String")⟩ := by decide +kernel
theorem d27_24 : decode jdk_43_method_13_code 24 = .ok (.iconst 0, 1) := by decide +kernel
theorem d27_25 : decode jdk_43_method_13_code 25 = .ok (.ireturn, 1) := by decide +kernel
def Qrm27_1 (Z : State) (a1 : Addr) (a2 : Addr) (k3 : ClassId) (p4 : Int32) (p5 : Int32) (k8 : ClassId) (h0 : Heap) (n0 : Nat) (v : Option Value) (h : Heap) (L : List Loc) : Prop := v = some (.int 0) ∧ Fr n0 L ∧ h = h0
set_option maxRecDepth 65536 in
set_option maxHeartbeats 40000000 in
theorem rm27_1 (l : Launch) (Z : State) (a0 : Array Value) (hw : ∀ d ∈ tables_1, d.before a0 Z = true) (ws : List Jvm.Cond) (a1 : Addr) (a2 : Addr) (k3 : ClassId) (p4 : Int32) (p5 : Int32) (k8 : ClassId) (h0 : Heap) (n0 : Nat) (O0 : Old Z n0 h0) (V_6 : Arv Z h0 a1 k3 .byte (2 : Int32) [(.int p4), (.int p5)] (.int 0)) (V_9 : Arv Z h0 a2 k8 .byte (2 : Int32) [(.int 45), (.int 45)] (.int (0 : Int32))) (hc14 : p4 = (45 : Int32)) (hc18 : ¬ (p5 = (45 : Int32))) :
    MF l Z h0 (⟨"java/lang/StringLatin1", "equals", "([B[B)Z"⟩ : MethodName) jdk_43_method_13_code 3 (some .boolean) ws (⟨0, 0, 0, 0⟩ : Room) #[(.ref a1), (.ref a2)] (Qrm27_1 Z a1 a2 k3 p4 p5 k8 h0 n0) := by
  refine MetFree.of_bodySF (plainFor_of_name pn_7) hisR ?_
  intro p e s m args below meth c s₁ Bd hml0 hP hK
  obtain ⟨rfl, hZ, hh⟩ := hP
  have hx := Bd.exec
  have hby := Bd.bytes
  have X0 : Stand p l e (⟨0, 0, 0, 0⟩ : Room) s m #[(.ref a1), (.ref a2)] below meth c s₁ [] 0 0 := Stand.of_body Bd
  have e0 : s₁.heap = h0 := by rw [← hh, Bd.state]; rfl
  have N0 := Fr.nil n0
  have pre0 : ∀ t, Steps p.tables e below (s₁.setTop (mkF m 0 #[vr a1, vr a2, .unset] [])) t → Steps p.tables e below (s₁.setTop (entryFrame m #[(.ref a1), (.ref a2)] 3)) t := fun t k => castTop (ef_27_RR m a1 a2) k
  obtain ⟨cl7, Ar7, q7, S7, M7, Hs7, G7⟩ := id V_6
  obtain ⟨cl10, Ar10, q10, S10, M10, Hs10, G10⟩ := id V_9
  obtain ⟨cl11, Ar11, q11, S11, M11, Hs11, G11⟩ := id V_6
  obtain ⟨cl12, Ar12, q12, S12, M12, Hs12, G12⟩ := id V_6
  have hin12 : ¬ ((0 : Int32) < 0 ∨ cl12.slots.size ≤ ((0 : Int32)).toNatClampNeg) := inb_of S12 ⟨by decide, by decide⟩
  have hat12 : cl12.slots[((0 : Int32)).toNatClampNeg]? = some (.int p4) := Has.at Hs12 hin12 rfl
  obtain ⟨cl13, Ar13, q13, S13, M13, Hs13, G13⟩ := id V_9
  have hin13 : ¬ ((0 : Int32) < 0 ∨ cl13.slots.size ≤ ((0 : Int32)).toNatClampNeg) := inb_of S13 ⟨by decide, by decide⟩
  have hat13 : cl13.slots[((0 : Int32)).toNatClampNeg]? = some (.int 45) := Has.at Hs13 hin13 rfl
  obtain ⟨cl15, Ar15, q15, S15, M15, Hs15, G15⟩ := id V_6
  obtain ⟨cl16, Ar16, q16, S16, M16, Hs16, G16⟩ := id V_6
  have hin16 : ¬ ((1 : Int32) < 0 ∨ cl16.slots.size ≤ ((1 : Int32)).toNatClampNeg) := inb_of S16 ⟨by decide, by decide⟩
  have hat16 : cl16.slots[((1 : Int32)).toNatClampNeg]? = some (.int p5) := Has.at Hs16 hin16 rfl
  obtain ⟨cl17, Ar17, q17, S17, M17, Hs17, G17⟩ := id V_9
  have hin17 : ¬ ((1 : Int32) < 0 ∨ cl17.slots.size ≤ ((1 : Int32)).toNatClampNeg) := inb_of S17 ⟨by decide, by decide⟩
  have hat17 : cl17.slots[((1 : Int32)).toNatClampNeg]? = some (.int 45) := Has.at Hs17 hin17 rfl
  obtain ⟨fs, hr, hrun, hended, hW, hsame⟩ := X0.leave (v := some (.int 0)) (fun h => by rw [Bd.returns] at h; cases h)
  refine ⟨_, _, pre0 _ ?_, hrun, hended, _, _, rfl, ?_, ⟨_, rfl⟩, hW, hsame.mono (by decide) (by decide)⟩
  · show Steps p.tables e below (s₁.setTop (mkF m 0 #[vr a1, vr a2, .unset] [])) _
    refine XS.aloadN X0.here hx rfl (hb hby d27_0) rfl rfl ?_
    refine X0.arraylength hx (by rw [e0]; exact Ar7.1) (State.isArrayOf_alike hZ.alike Ar7.2.1) (g := (mkF m 1 #[vr a1, vr a2, .unset] [(.ref a1)])) rfl rfl (hb hby d27_1) _ ?_
    rw [len_of S7 M7]
    refine XS.aloadN X0.here hx rfl (hb hby d27_2) rfl rfl ?_
    refine X0.arraylength hx (by rw [e0]; exact Ar10.1) (State.isArrayOf_alike hZ.alike Ar10.2.1) (g := (mkF m 3 #[vr a1, vr a2, .unset] [(.ref a2), (.int 2)])) rfl rfl (hb hby d27_3) _ ?_
    rw [len_of S10 M10]
    refine XS.icmpNo X0.here hx rfl (hb hby d27_4) rfl (teq ((by decide) : (2 : Int32) = (2 : Int32))).2 ?_
    refine XS.iconst X0.here hx rfl (hb hby d27_7) ?_
    refine XS.istoreN X0.here hx rfl (hb hby d27_8) rfl (l' := #[vr a1, vr a2, vi 0]) rfl ?_
    refine XS.iloadN X0.here hx rfl (hb hby d27_9) rfl ?_
    show Steps p.tables e below (s₁.setTop (mkF m 10 #[vr a1, vr a2, vi 0] [(.int 0)])) _
    refine XS.aloadN X0.here hx rfl (hb hby d27_10) rfl rfl ?_
    refine X0.arraylength hx (by rw [e0]; exact Ar11.1) (State.isArrayOf_alike hZ.alike Ar11.2.1) (g := (mkF m 11 #[vr a1, vr a2, vi 0] [(.ref a1), (.int 0)])) rfl rfl (hb hby d27_11) _ ?_
    rw [len_of S11 M11]
    refine XS.icmpNo X0.here hx rfl (hb hby d27_12) rfl (tlt ((by decide) : (0 : Int32) < (2 : Int32))).2.1 ?_
    refine XS.aloadN X0.here hx rfl (hb hby d27_15) rfl rfl ?_
    refine XS.iloadN X0.here hx rfl (hb hby d27_16) rfl ?_
    refine X0.baloadBytes hx (j := (0 : Int32)) (v := (.int p4)) (by rw [e0]; exact Ar12.1) (State.isArrayOf_alike hZ.alike Ar12.2.1) Ar12.2.2 hin12 hat12 (g := (mkF m 17 #[vr a1, vr a2, vi 0] [(.int 0), (.ref a1)])) rfl rfl (hb hby d27_17) _ ?_
    refine XS.aloadN X0.here hx rfl (hb hby d27_18) rfl rfl ?_
    refine XS.iloadN X0.here hx rfl (hb hby d27_19) rfl ?_
    refine X0.baloadBytes hx (j := (0 : Int32)) (v := (.int 45)) (by rw [e0]; exact Ar13.1) (State.isArrayOf_alike hZ.alike Ar13.2.1) Ar13.2.2 hin13 hat13 (g := (mkF m 20 #[vr a1, vr a2, vi 0] [(.int 0), (.ref a2), (.int p4)])) rfl rfl (hb hby d27_20) _ ?_
    show Steps p.tables e below (s₁.setTop (mkF m 21 #[vr a1, vr a2, vi 0] [(.int 45), (.int p4)])) _
    refine XS.icmpYes X0.here hx rfl (pc0 := 21) (pc' := 26) rfl (hb hby d27_21) rfl (teq (hc14 : p4 = (45 : Int32))).1 (by decide) (by decide) ?_
    refine XS.iinc X0.here hx rfl (hb hby d27_26) rfl (l' := #[vr a1, vr a2, vi 1]) rfl ?_
    refine XS.goto X0.here hx rfl (pc0 := 29) (pc' := 9) rfl (hb hby d27_29) (by decide) (by decide) ?_
    refine XS.iloadN X0.here hx rfl (hb hby d27_9) rfl ?_
    refine XS.aloadN X0.here hx rfl (hb hby d27_10) rfl rfl ?_
    refine X0.arraylength hx (by rw [e0]; exact Ar15.1) (State.isArrayOf_alike hZ.alike Ar15.2.1) (g := (mkF m 11 #[vr a1, vr a2, vi 1] [(.ref a1), (.int 1)])) rfl rfl (hb hby d27_11) _ ?_
    rw [len_of S15 M15]
    refine XS.icmpNo X0.here hx rfl (hb hby d27_12) rfl (tlt ((by decide) : (1 : Int32) < (2 : Int32))).2.1 ?_
    refine XS.aloadN X0.here hx rfl (hb hby d27_15) rfl rfl ?_
    refine XS.iloadN X0.here hx rfl (hb hby d27_16) rfl ?_
    show Steps p.tables e below (s₁.setTop (mkF m 17 #[vr a1, vr a2, vi 1] [(.int 1), (.ref a1)])) _
    refine X0.baloadBytes hx (j := (1 : Int32)) (v := (.int p5)) (by rw [e0]; exact Ar16.1) (State.isArrayOf_alike hZ.alike Ar16.2.1) Ar16.2.2 hin16 hat16 (g := (mkF m 17 #[vr a1, vr a2, vi 1] [(.int 1), (.ref a1)])) rfl rfl (hb hby d27_17) _ ?_
    refine XS.aloadN X0.here hx rfl (hb hby d27_18) rfl rfl ?_
    refine XS.iloadN X0.here hx rfl (hb hby d27_19) rfl ?_
    refine X0.baloadBytes hx (j := (1 : Int32)) (v := (.int 45)) (by rw [e0]; exact Ar17.1) (State.isArrayOf_alike hZ.alike Ar17.2.1) Ar17.2.2 hin17 hat17 (g := (mkF m 20 #[vr a1, vr a2, vi 1] [(.int 1), (.ref a2), (.int p5)])) rfl rfl (hb hby d27_20) _ ?_
    refine XS.icmpNo X0.here hx rfl (hb hby d27_21) rfl (feq (hc18 : ¬ (p5 = (45 : Int32)))).1 ?_
    refine XS.iconst X0.here hx rfl (hb hby d27_24) ?_
    exact retN X0 hx (t := .boolean) Bd.returns (by simp) (hb hby d27_25) hr
  · show Qrm27_1 Z a1 a2 k3 p4 p5 k8 h0 n0 _ s₁.heap _
    rw [e0]
    exact ⟨rfl, N0, rfl⟩
theorem d26_54 : decode jdk_42_method_66_code 54 = .ok (.iconst 0, 1) := by decide +kernel
def Qrm26_1 (Z : State) (a1 : Addr) (a2 : Addr) (p6 : Int32) (a14 : Addr) (a17 : Addr) (k20 : ClassId) (p21 : Int32) (p22 : Int32) (k24 : ClassId) (h0 : Heap) (n0 : Nat) (v : Option Value) (h : Heap) (L : List Loc) : Prop := v = some (.int 0) ∧ Fr n0 L ∧ h = h0
set_option maxRecDepth 65536 in
set_option maxHeartbeats 40000000 in
theorem rm26_1 (l : Launch) (Z : State) (a0 : Array Value) (hw : ∀ d ∈ tables_1, d.before a0 Z = true) (ws : List Jvm.Cond) (a1 : Addr) (a2 : Addr) (p6 : Int32) (a14 : Addr) (a17 : Addr) (k20 : ClassId) (p21 : Int32) (p22 : Int32) (k24 : ClassId) (h0 : Heap) (n0 : Nat) (O0 : Old Z n0 h0) (ne_a1_a2 : a1 ≠ a2) (E_3 : Exa Z h0 a2 "java/lang/String") (S_7 : Sta Z Z.heap "java/lang/String" "COMPACT_STRINGS" "Z" (.int p6)) (hc9 : ¬ (p6 = (0 : Int32))) (F_10 : Fld Z h0 a1 "java/lang/String" "coder" "B" (.int 0)) (F_12 : Fld Z h0 a2 "java/lang/String" "coder" "B" (.int 0)) (F_15 : Fld Z h0 a1 "java/lang/String" "value" "[B" (.ref a14)) (F_18 : Fld Z h0 a2 "java/lang/String" "value" "[B" (.ref a17)) (V_23 : Arv Z h0 a14 k20 .byte (2 : Int32) [(.int p21), (.int p22)] (.int 0)) (V_25 : Arv Z h0 a17 k24 .byte (2 : Int32) [(.int 45), (.int 45)] (.int (0 : Int32))) (hc26 : p21 = (45 : Int32)) (hc27 : ¬ (p22 = (45 : Int32))) :
    MF l Z h0 (⟨"java/lang/String", "equals", "(Ljava/lang/Object;)Z"⟩ : MethodName) jdk_42_method_66_code 3 (some .boolean) ws (⟨1, 0, 0, 14⟩ : Room) #[(.ref a1), (.ref a2)] (Qrm26_1 Z a1 a2 p6 a14 a17 k20 p21 p22 k24 h0 n0) := by
  refine MetFree.of_bodySF (plainFor_of_name pn_4) hisR ?_
  intro p e s m args below meth c s₁ Bd hml0 hP hK
  obtain ⟨rfl, hZ, hh⟩ := hP
  have hx := Bd.exec
  have hby := Bd.bytes
  have hml : c.maxLocals = 3 := hml0
  have hown : s.vm.findClass "java/lang/String" = some m.cls := findClass_of_methodNamed Bd.named
  have X0 : Stand p l e (⟨1, 0, 0, 14⟩ : Room) s m #[(.ref a1), (.ref a2)] below meth c s₁ [] 0 0 := Stand.of_body Bd
  have e0 : s₁.heap = h0 := by rw [← hh, Bd.state]; rfl
  have N0 := Fr.nil n0
  have pre0 : ∀ t, Steps p.tables e below (s₁.setTop (mkF m 0 #[vr a1, vr a2, .unset] [])) t → Steps p.tables e below (s₁.setTop (entryFrame m #[(.ref a1), (.ref a2)] 3)) t := fun t k => castTop (ef_26_RR m a1 a2) k
  obtain ⟨T4, X4, e4, st4⟩ := instY X0 hx hZ hown (W hw 37 rfl) e0 (Ins.self E_3) (g := (mkF m 8 #[vr a1, vr a2, .unset] [(.ref a2)])) rfl rfl (hb hby d26_8)
  obtain ⟨T5, X5, e5, st5⟩ := castY X4 hx hZ hown (W hw 37 rfl) e4 (Ins.self E_3) (g := (mkF m 15 #[vr a1, vr a2, .unset] [(.ref a2)])) rfl rfl (hb hby d26_15)
  obtain ⟨T8, X8, e8, st8⟩ := getS2 X5 hx hZ hown (host := "") (Or.inl (W hw 14 rfl)) Via.refl e5 (S_7.ext O0.2) (g := (mkF m 19 #[vr a1, vr a2, vr a2] [])) rfl (hb hby d26_19)
  obtain ⟨T11, X11, e11, st11⟩ := getF X8 hx hZ hown (host := "") (Or.inl (W hw 26 rfl)) Via.refl e8 F_10 (g := (mkF m 26 #[vr a1, vr a2, vr a2] [(.ref a1)])) rfl rfl (hb hby d26_26)
  obtain ⟨T13, X13, e13, st13⟩ := getF X11 hx hZ hown (host := "") (Or.inl (W hw 26 rfl)) Via.refl e11 F_12 (g := (mkF m 30 #[vr a1, vr a2, vr a2] [(.ref a2), (.int 0)])) rfl rfl (hb hby d26_30)
  obtain ⟨T16, X16, e16, st16⟩ := getF X13 hx hZ hown (host := "") (Or.inl (W hw 28 rfl)) Via.refl e13 F_15 (g := (mkF m 37 #[vr a1, vr a2, vr a2] [(.ref a1)])) rfl rfl (hb hby d26_37)
  obtain ⟨T19, X19, e19, st19⟩ := getF X16 hx hZ hown (host := "") (Or.inl (W hw 28 rfl)) Via.refl e16 F_18 (g := (mkF m 41 #[vr a1, vr a2, vr a2] [(.ref a2), (.ref a14)])) rfl rfl (hb hby d26_41)
  obtain ⟨_, T28, L28, X28, hQ28, st28⟩ := cS X19 hx hZ hown (W hw 154 rfl) (W hw 155 rfl) (W hw 35 rfl) (W hw 156 rfl) (by decide) (rm27_1 l Z a0 hw [] a14 a17 k20 p21 p22 k24 h0 n0 O0 V_23 V_25 hc26 hc27) e19 #[vr a1, vr a2, vr a2] [] (by rw [hml]; rfl) (hb hby d26_44) pd_28 rfl (W := 0) (Nat.le_of_eq rfl) (by decide) (by decide) (by decide) (by decide)
  obtain ⟨rfl, Nq28, e28⟩ := hQ28
  have N28 := Fr.app N0 Nq28
  obtain ⟨fs, hr, hrun, hended, hW, hsame⟩ := X28.leave (v := some (.int 0)) (fun h => by rw [Bd.returns] at h; cases h)
  refine ⟨_, _, pre0 _ ?_, hrun, hended, _, _, rfl, ?_, ⟨_, rfl⟩, hW, hsame.mono (by decide) (by decide)⟩
  · show Steps p.tables e below (s₁.setTop (mkF m 0 #[vr a1, vr a2, .unset] [])) _
    refine XS.aloadN X0.here hx rfl (hb hby d26_0) rfl rfl ?_
    refine XS.aloadN X0.here hx rfl (hb hby d26_1) rfl rfl ?_
    refine Jvm.RoadKit.acmp (g := (mkF m 2 #[vr a1, vr a2, .unset] [(.ref a2), (.ref a1)])) X0 hx rfl rfl rfl (pc0 := 2) (pc' := 7) (same := false) rfl (hb hby d26_2) rfl (decide_eq_false fun q => ne_a1_a2 (Value.ref.inj q)) (by decide) (by decide) ?_
    refine XS.aloadN X0.here hx rfl (hb hby d26_7) rfl rfl ?_
    refine st4 _ ?_
    refine XS.ifNo X4.here hx rfl (hb hby d26_11) rfl ((if0 _ _).trans (feq ((by decide) : ¬ ((1 : Int32) = (0 : Int32)))).1) ?_
    refine XS.aloadN X4.here hx rfl (hb hby d26_14) rfl rfl ?_
    refine st5 _ ?_
    refine XS.astoreN X5.here hx rfl (hb hby d26_18) rfl rfl (l' := #[vr a1, vr a2, vr a2]) rfl ?_
    refine st8 _ ?_
    show Steps p.tables e below (T8.setTop (mkF m 22 #[vr a1, vr a2, vr a2] [(.int p6)])) _
    refine XS.ifNo X8.here hx rfl (hb hby d26_22) rfl ((if0 _ _).trans (feq (hc9 : ¬ (p6 = (0 : Int32)))).1) ?_
    refine XS.aloadN X8.here hx rfl (hb hby d26_25) rfl rfl ?_
    refine st11 _ ?_
    refine XS.aloadN X11.here hx rfl (hb hby d26_29) rfl rfl ?_
    refine st13 _ ?_
    refine XS.icmpNo X13.here hx rfl (hb hby d26_33) rfl (teq ((by decide) : (0 : Int32) = (0 : Int32))).2 ?_
    refine XS.aloadN X13.here hx rfl (hb hby d26_36) rfl rfl ?_
    refine st16 _ ?_
    refine XS.aloadN X16.here hx rfl (hb hby d26_40) rfl rfl ?_
    refine st19 _ ?_
    show Steps p.tables e below (T19.setTop (mkF m 44 #[vr a1, vr a2, vr a2] [(.ref a17), (.ref a14)])) _
    refine st28 _ ?_
    refine XS.ifYes X28.here hx rfl (pc0 := 47) (pc' := 54) rfl (hb hby d26_47) rfl ((if0 _ _).trans (teq ((by decide) : (0 : Int32) = (0 : Int32))).1) (by decide) (by decide) ?_
    refine XS.iconst X28.here hx rfl (hb hby d26_54) ?_
    exact retN X28 hx (t := .boolean) Bd.returns (by simp) (hb hby d26_55) hr
  · show Qrm26_1 Z a1 a2 p6 a14 a17 k20 p21 p22 k24 h0 n0 _ T28.heap _
    rw [e28]
    exact ⟨rfl, N28, rfl⟩
theorem d20_56 : decode prog_1_method_2_code 56 = .ok (.aload_n 1, 1) := by decide +kernel
theorem d20_57 : decode prog_1_method_2_code 57 = .ok (.ldc 35, 2) := by decide +kernel
theorem d20_59 : decode prog_1_method_2_code 59 = .ok (.invokevirtual 37, 3) := by decide +kernel
theorem d28_0 : decode jdk_42_method_76_code 0 = .ok (.aload_n 0, 1) := by decide +kernel
theorem d28_1 : decode jdk_42_method_76_code 1 = .ok (.aload_n 1, 1) := by decide +kernel
theorem d28_2 : decode jdk_42_method_76_code 2 = .ok (.iconst 0, 1) := by decide +kernel
theorem d28_3 : decode jdk_42_method_76_code 3 = .ok (.invokevirtual 624, 3) := by decide +kernel
theorem d29_0 : decode jdk_42_method_75_code 0 = .ok (.iload_n 2, 1) := by decide +kernel
theorem d29_1 : decode jdk_42_method_75_code 1 = .ok (.ifCond .lt 16, 3) := by decide +kernel
theorem d29_4 : decode jdk_42_method_75_code 4 = .ok (.iload_n 2, 1) := by decide +kernel
theorem d29_5 : decode jdk_42_method_75_code 5 = .ok (.aload_n 0, 1) := by decide +kernel
theorem d29_6 : decode jdk_42_method_75_code 6 = .ok (.invokevirtual 505, 3) := by decide +kernel
theorem d30_0 : decode jdk_42_method_54_code 0 = .ok (.aload_n 0, 1) := by decide +kernel
theorem d30_1 : decode jdk_42_method_54_code 1 = .ok (.getfield 9, 3) := by decide +kernel
theorem d30_4 : decode jdk_42_method_54_code 4 = .ok (.arraylength, 1) := by decide +kernel
theorem d30_5 : decode jdk_42_method_54_code 5 = .ok (.aload_n 0, 1) := by decide +kernel
theorem d30_6 : decode jdk_42_method_54_code 6 = .ok (.invokevirtual 335, 3) := by decide +kernel
theorem d31_0 : decode jdk_42_method_152_code 0 = .ok (.getstatic 38, 3) := by decide +kernel
theorem d31_3 : decode jdk_42_method_152_code 3 = .ok (.ifCond .eq 10, 3) := by decide +kernel
theorem d31_6 : decode jdk_42_method_152_code 6 = .ok (.aload_n 0, 1) := by decide +kernel
theorem d31_7 : decode jdk_42_method_152_code 7 = .ok (.getfield 15, 3) := by decide +kernel
theorem d31_10 : decode jdk_42_method_152_code 10 = .ok (.goto 4, 3) := by decide +kernel
theorem d31_14 : decode jdk_42_method_152_code 14 = .ok (.ireturn, 1) := by decide +kernel
theorem ef_31_R (m : MethodId) (x0 : Addr) : entryFrame m #[(.ref x0)] 1 = mkF m 0 #[vr x0] [] := by first | (simp [entryFrame, mkF, argsToLocals, Value.category]; done) | rfl
def Qrm31 (Z : State) (a1 : Addr) (p2 : Int32) (h0 : Heap) (n0 : Nat) (v : Option Value) (h : Heap) (L : List Loc) : Prop := v = some (.int 0) ∧ Fr n0 L ∧ h = h0
set_option maxRecDepth 65536 in
set_option maxHeartbeats 40000000 in
theorem rm31 (l : Launch) (Z : State) (a0 : Array Value) (hw : ∀ d ∈ tables_1, d.before a0 Z = true) (ws : List Jvm.Cond) (a1 : Addr) (p2 : Int32) (h0 : Heap) (n0 : Nat) (O0 : Old Z n0 h0) (S_3 : Sta Z Z.heap "java/lang/String" "COMPACT_STRINGS" "Z" (.int p2)) (hc5 : ¬ (p2 = (0 : Int32))) (F_6 : Fld Z h0 a1 "java/lang/String" "coder" "B" (.int 0)) :
    MF l Z h0 (⟨"java/lang/String", "coder", "()B"⟩ : MethodName) jdk_42_method_152_code 1 (some .byte) ws (⟨0, 0, 0, 0⟩ : Room) #[(.ref a1)] (Qrm31 Z a1 p2 h0 n0) := by
  refine MetFree.of_bodySF (plainFor_of_name pn_4) hisR ?_
  intro p e s m args below meth c s₁ Bd hml0 hP hK
  obtain ⟨rfl, hZ, hh⟩ := hP
  have hx := Bd.exec
  have hby := Bd.bytes
  have hown : s.vm.findClass "java/lang/String" = some m.cls := findClass_of_methodNamed Bd.named
  have X0 : Stand p l e (⟨0, 0, 0, 0⟩ : Room) s m #[(.ref a1)] below meth c s₁ [] 0 0 := Stand.of_body Bd
  have e0 : s₁.heap = h0 := by rw [← hh, Bd.state]; rfl
  have N0 := Fr.nil n0
  have pre0 : ∀ t, Steps p.tables e below (s₁.setTop (mkF m 0 #[vr a1] [])) t → Steps p.tables e below (s₁.setTop (entryFrame m #[(.ref a1)] 1)) t := fun t k => castTop (ef_31_R m a1) k
  obtain ⟨T4, X4, e4, st4⟩ := getS2 X0 hx hZ hown (host := "") (Or.inl (W hw 14 rfl)) Via.refl e0 (S_3.ext O0.2) (g := (mkF m 0 #[vr a1] [])) rfl (hb hby d31_0)
  obtain ⟨T7, X7, e7, st7⟩ := getF X4 hx hZ hown (host := "") (Or.inl (W hw 26 rfl)) Via.refl e4 F_6 (g := (mkF m 7 #[vr a1] [(.ref a1)])) rfl rfl (hb hby d31_7)
  obtain ⟨fs, hr, hrun, hended, hW, hsame⟩ := X7.leave (v := some (.int 0)) (fun h => by rw [Bd.returns] at h; cases h)
  refine ⟨_, _, pre0 _ ?_, hrun, hended, _, _, rfl, ?_, ⟨_, rfl⟩, hW, hsame.mono (by decide) (by decide)⟩
  · show Steps p.tables e below (s₁.setTop (mkF m 0 #[vr a1] [])) _
    refine st4 _ ?_
    refine XS.ifNo X4.here hx rfl (hb hby d31_3) rfl ((if0 _ _).trans (feq (hc5 : ¬ (p2 = (0 : Int32)))).1) ?_
    refine XS.aloadN X4.here hx rfl (hb hby d31_6) rfl rfl ?_
    refine st7 _ ?_
    refine XS.goto X7.here hx rfl (pc0 := 10) (pc' := 14) rfl (hb hby d31_10) (by decide) (by decide) ?_
    exact retN X7 hx (t := .byte) Bd.returns (by simp) (hb hby d31_14) hr
  · show Qrm31 Z a1 p2 h0 n0 _ T7.heap _
    rw [e7]
    exact ⟨rfl, N0, rfl⟩
theorem pd_32 : parseMethodDescriptor "()B" = some ⟨[], some .byte⟩ := by decide +kernel
theorem d30_9 : decode jdk_42_method_54_code 9 = .ok (.ishr, 1) := by decide +kernel
theorem d30_10 : decode jdk_42_method_54_code 10 = .ok (.ireturn, 1) := by decide +kernel
theorem ef_30_R (m : MethodId) (x0 : Addr) : entryFrame m #[(.ref x0)] 1 = mkF m 0 #[vr x0] [] := by first | (simp [entryFrame, mkF, argsToLocals, Value.category]; done) | rfl
def Qrm30 (Z : State) (a1 : Addr) (a2 : Addr) (k5 : ClassId) (p6 : Int32) (p7 : Int32) (p11 : Int32) (h0 : Heap) (n0 : Nat) (v : Option Value) (h : Heap) (L : List Loc) : Prop := v = some (.int 2) ∧ Fr n0 L ∧ h = h0
set_option maxRecDepth 65536 in
set_option maxHeartbeats 40000000 in
theorem rm30 (l : Launch) (Z : State) (a0 : Array Value) (hw : ∀ d ∈ tables_1, d.before a0 Z = true) (ws : List Jvm.Cond) (a1 : Addr) (a2 : Addr) (k5 : ClassId) (p6 : Int32) (p7 : Int32) (p11 : Int32) (h0 : Heap) (n0 : Nat) (O0 : Old Z n0 h0) (F_3 : Fld Z h0 a1 "java/lang/String" "value" "[B" (.ref a2)) (V_8 : Arv Z h0 a2 k5 .byte (2 : Int32) [(.int p6), (.int p7)] (.int 0)) (E_10 : Exa Z h0 a1 "java/lang/String") (S_12 : Sta Z Z.heap "java/lang/String" "COMPACT_STRINGS" "Z" (.int p11)) (hc13 : ¬ (p11 = (0 : Int32))) (F_14 : Fld Z h0 a1 "java/lang/String" "coder" "B" (.int 0)) :
    MF l Z h0 (⟨"java/lang/String", "length", "()I"⟩ : MethodName) jdk_42_method_54_code 1 (some .int) ws (⟨1, 0, 0, 13⟩ : Room) #[(.ref a1)] (Qrm30 Z a1 a2 k5 p6 p7 p11 h0 n0) := by
  refine MetFree.of_bodySF (plainFor_of_name pn_4) hisR ?_
  intro p e s m args below meth c s₁ Bd hml0 hP hK
  obtain ⟨rfl, hZ, hh⟩ := hP
  have hx := Bd.exec
  have hby := Bd.bytes
  have hml : c.maxLocals = 1 := hml0
  have hown : s.vm.findClass "java/lang/String" = some m.cls := findClass_of_methodNamed Bd.named
  have X0 : Stand p l e (⟨1, 0, 0, 13⟩ : Room) s m #[(.ref a1)] below meth c s₁ [] 0 0 := Stand.of_body Bd
  have e0 : s₁.heap = h0 := by rw [← hh, Bd.state]; rfl
  have N0 := Fr.nil n0
  have pre0 : ∀ t, Steps p.tables e below (s₁.setTop (mkF m 0 #[vr a1] [])) t → Steps p.tables e below (s₁.setTop (entryFrame m #[(.ref a1)] 1)) t := fun t k => castTop (ef_30_R m a1) k
  obtain ⟨T4, X4, e4, st4⟩ := getF X0 hx hZ hown (host := "") (Or.inl (W hw 28 rfl)) Via.refl e0 F_3 (g := (mkF m 1 #[vr a1] [(.ref a1)])) rfl rfl (hb hby d30_1)
  obtain ⟨cl9, Ar9, q9, S9, M9, Hs9, G9⟩ := id V_8
  obtain ⟨_, T15, L15, X15, hQ15, st15⟩ := cV X4 hx hZ hown (W hw 173 rfl) (W hw 174 rfl) (notFace_of_selects (args := #[]) (mvT hZ (W hw 176 rfl))) (W hw 176 rfl) (W hw 175 rfl) (W hw 177 rfl) (W hw 2 rfl) (by decide) (rm31 l Z a0 hw [] a1 p11 h0 n0 O0 S_12 hc13 F_14) e4 E_10 #[vr a1] [(.int 2)] (by rw [hml]; rfl) (hb hby d30_6) pd_32 rfl (W := 1) (Nat.le_of_eq rfl) (by decide) (by decide) (by decide) (by decide)
  obtain ⟨rfl, Nq15, e15⟩ := hQ15
  have N15 := Fr.app N0 Nq15
  obtain ⟨fs, hr, hrun, hended, hW, hsame⟩ := X15.leave (v := some (.int 2)) (fun h => by rw [Bd.returns] at h; cases h)
  refine ⟨_, _, pre0 _ ?_, hrun, hended, _, _, rfl, ?_, ⟨_, rfl⟩, hW, hsame.mono (by decide) (by decide)⟩
  · show Steps p.tables e below (s₁.setTop (mkF m 0 #[vr a1] [])) _
    refine XS.aloadN X0.here hx rfl (hb hby d30_0) rfl rfl ?_
    refine st4 _ ?_
    refine X4.arraylength hx (by rw [e4]; exact Ar9.1) (State.isArrayOf_alike hZ.alike Ar9.2.1) (g := (mkF m 4 #[vr a1] [(.ref a2)])) rfl rfl (hb hby d30_4) _ ?_
    rw [len_of S9 M9]
    refine XS.aloadN X4.here hx rfl (hb hby d30_5) rfl rfl ?_
    refine st15 _ ?_
    refine XS.ishr X15.here hx rfl (hb hby d30_9) rfl ?_
    show Steps p.tables e below (T15.setTop (mkF m 10 #[vr a1] [(.int ((2 : Int32) >>> ((0 : Int32) &&& 31)))])) _
    rw [show ((2 : Int32) >>> ((0 : Int32) &&& 31)) = (2 : Int32) from by decide]
    exact retI X15 hx Bd.returns (hb hby d30_10) hr
  · show Qrm30 Z a1 a2 k5 p6 p7 p11 h0 n0 _ T15.heap _
    rw [e15]
    exact ⟨rfl, N15, rfl⟩
theorem d29_9 : decode jdk_42_method_75_code 9 = .ok (.aload_n 1, 1) := by decide +kernel
theorem d29_10 : decode jdk_42_method_75_code 10 = .ok (.invokevirtual 505, 3) := by decide +kernel
def Qrm30_1 (Z : State) (a1 : Addr) (a2 : Addr) (k5 : ClassId) (p9 : Int32) (h0 : Heap) (n0 : Nat) (v : Option Value) (h : Heap) (L : List Loc) : Prop := v = some (.int 1) ∧ Fr n0 L ∧ h = h0
set_option maxRecDepth 65536 in
set_option maxHeartbeats 40000000 in
theorem rm30_1 (l : Launch) (Z : State) (a0 : Array Value) (hw : ∀ d ∈ tables_1, d.before a0 Z = true) (ws : List Jvm.Cond) (a1 : Addr) (a2 : Addr) (k5 : ClassId) (p9 : Int32) (h0 : Heap) (n0 : Nat) (O0 : Old Z n0 h0) (F_3 : Fld Z h0 a1 "java/lang/String" "value" "[B" (.ref a2)) (V_6 : Arv Z h0 a2 k5 .byte (1 : Int32) [(.int 45)] (.int (0 : Int32))) (E_8 : Exa Z h0 a1 "java/lang/String") (S_10 : Sta Z Z.heap "java/lang/String" "COMPACT_STRINGS" "Z" (.int p9)) (hc11 : ¬ (p9 = (0 : Int32))) (F_12 : Fld Z h0 a1 "java/lang/String" "coder" "B" (.int 0)) :
    MF l Z h0 (⟨"java/lang/String", "length", "()I"⟩ : MethodName) jdk_42_method_54_code 1 (some .int) ws (⟨1, 0, 0, 13⟩ : Room) #[(.ref a1)] (Qrm30_1 Z a1 a2 k5 p9 h0 n0) := by
  refine MetFree.of_bodySF (plainFor_of_name pn_4) hisR ?_
  intro p e s m args below meth c s₁ Bd hml0 hP hK
  obtain ⟨rfl, hZ, hh⟩ := hP
  have hx := Bd.exec
  have hby := Bd.bytes
  have hml : c.maxLocals = 1 := hml0
  have hown : s.vm.findClass "java/lang/String" = some m.cls := findClass_of_methodNamed Bd.named
  have X0 : Stand p l e (⟨1, 0, 0, 13⟩ : Room) s m #[(.ref a1)] below meth c s₁ [] 0 0 := Stand.of_body Bd
  have e0 : s₁.heap = h0 := by rw [← hh, Bd.state]; rfl
  have N0 := Fr.nil n0
  have pre0 : ∀ t, Steps p.tables e below (s₁.setTop (mkF m 0 #[vr a1] [])) t → Steps p.tables e below (s₁.setTop (entryFrame m #[(.ref a1)] 1)) t := fun t k => castTop (ef_30_R m a1) k
  obtain ⟨T4, X4, e4, st4⟩ := getF X0 hx hZ hown (host := "") (Or.inl (W hw 28 rfl)) Via.refl e0 F_3 (g := (mkF m 1 #[vr a1] [(.ref a1)])) rfl rfl (hb hby d30_1)
  obtain ⟨cl7, Ar7, q7, S7, M7, Hs7, G7⟩ := id V_6
  obtain ⟨_, T13, L13, X13, hQ13, st13⟩ := cV X4 hx hZ hown (W hw 173 rfl) (W hw 174 rfl) (notFace_of_selects (args := #[]) (mvT hZ (W hw 176 rfl))) (W hw 176 rfl) (W hw 175 rfl) (W hw 177 rfl) (W hw 2 rfl) (by decide) (rm31 l Z a0 hw [] a1 p9 h0 n0 O0 S_10 hc11 F_12) e4 E_8 #[vr a1] [(.int 1)] (by rw [hml]; rfl) (hb hby d30_6) pd_32 rfl (W := 1) (Nat.le_of_eq rfl) (by decide) (by decide) (by decide) (by decide)
  obtain ⟨rfl, Nq13, e13⟩ := hQ13
  have N13 := Fr.app N0 Nq13
  obtain ⟨fs, hr, hrun, hended, hW, hsame⟩ := X13.leave (v := some (.int 1)) (fun h => by rw [Bd.returns] at h; cases h)
  refine ⟨_, _, pre0 _ ?_, hrun, hended, _, _, rfl, ?_, ⟨_, rfl⟩, hW, hsame.mono (by decide) (by decide)⟩
  · show Steps p.tables e below (s₁.setTop (mkF m 0 #[vr a1] [])) _
    refine XS.aloadN X0.here hx rfl (hb hby d30_0) rfl rfl ?_
    refine st4 _ ?_
    refine X4.arraylength hx (by rw [e4]; exact Ar7.1) (State.isArrayOf_alike hZ.alike Ar7.2.1) (g := (mkF m 4 #[vr a1] [(.ref a2)])) rfl rfl (hb hby d30_4) _ ?_
    rw [len_of S7 M7]
    refine XS.aloadN X4.here hx rfl (hb hby d30_5) rfl rfl ?_
    refine st13 _ ?_
    refine XS.ishr X13.here hx rfl (hb hby d30_9) rfl ?_
    show Steps p.tables e below (T13.setTop (mkF m 10 #[vr a1] [(.int ((1 : Int32) >>> ((0 : Int32) &&& 31)))])) _
    rw [show ((1 : Int32) >>> ((0 : Int32) &&& 31)) = (1 : Int32) from by decide]
    exact retI X13 hx Bd.returns (hb hby d30_10) hr
  · show Qrm30_1 Z a1 a2 k5 p9 h0 n0 _ T13.heap _
    rw [e13]
    exact ⟨rfl, N13, rfl⟩
theorem d29_13 : decode jdk_42_method_75_code 13 = .ok (.isub, 1) := by decide +kernel
theorem d29_14 : decode jdk_42_method_75_code 14 = .ok (.if_icmp .le 5, 3) := by decide +kernel
theorem d29_19 : decode jdk_42_method_75_code 19 = .ok (.aload_n 0, 1) := by decide +kernel
theorem d29_20 : decode jdk_42_method_75_code 20 = .ok (.getfield 9, 3) := by decide +kernel
theorem d29_23 : decode jdk_42_method_75_code 23 = .ok (.astore_n 3, 1) := by decide +kernel
theorem d29_24 : decode jdk_42_method_75_code 24 = .ok (.aload_n 1, 1) := by decide +kernel
theorem d29_25 : decode jdk_42_method_75_code 25 = .ok (.getfield 9, 3) := by decide +kernel
theorem d29_28 : decode jdk_42_method_75_code 28 = .ok (.astore 4, 2) := by decide +kernel
theorem d29_30 : decode jdk_42_method_75_code 30 = .ok (.iconst 0, 1) := by decide +kernel
theorem d29_31 : decode jdk_42_method_75_code 31 = .ok (.istore 5, 2) := by decide +kernel
theorem d29_33 : decode jdk_42_method_75_code 33 = .ok (.aload 4, 2) := by decide +kernel
theorem d29_35 : decode jdk_42_method_75_code 35 = .ok (.arraylength, 1) := by decide +kernel
theorem d29_36 : decode jdk_42_method_75_code 36 = .ok (.istore 6, 2) := by decide +kernel
theorem d29_38 : decode jdk_42_method_75_code 38 = .ok (.aload_n 0, 1) := by decide +kernel
theorem d29_39 : decode jdk_42_method_75_code 39 = .ok (.invokevirtual 335, 3) := by decide +kernel
theorem d29_42 : decode jdk_42_method_75_code 42 = .ok (.istore 7, 2) := by decide +kernel
theorem d29_44 : decode jdk_42_method_75_code 44 = .ok (.iload 7, 2) := by decide +kernel
theorem d29_46 : decode jdk_42_method_75_code 46 = .ok (.aload_n 1, 1) := by decide +kernel
theorem d29_47 : decode jdk_42_method_75_code 47 = .ok (.invokevirtual 335, 3) := by decide +kernel
theorem d29_50 : decode jdk_42_method_75_code 50 = .ok (.if_icmp .ne 32, 3) := by decide +kernel
theorem d29_53 : decode jdk_42_method_75_code 53 = .ok (.iload 7, 2) := by decide +kernel
theorem d29_55 : decode jdk_42_method_75_code 55 = .ok (.iconst 1, 1) := by decide +kernel
theorem d29_56 : decode jdk_42_method_75_code 56 = .ok (.if_icmp .ne 7, 3) := by decide +kernel
theorem d29_63 : decode jdk_42_method_75_code 63 = .ok (.aload_n 3, 1) := by decide +kernel
theorem d29_64 : decode jdk_42_method_75_code 64 = .ok (.iload_n 2, 1) := by decide +kernel
theorem d29_65 : decode jdk_42_method_75_code 65 = .ok (.aload 4, 2) := by decide +kernel
theorem d29_67 : decode jdk_42_method_75_code 67 = .ok (.iconst 0, 1) := by decide +kernel
theorem d29_68 : decode jdk_42_method_75_code 68 = .ok (.iload 6, 2) := by decide +kernel
theorem d29_70 : decode jdk_42_method_75_code 70 = .ok (.invokestatic 607, 3) := by decide +kernel
theorem d32_0 : decode jdk_48_method_14_code 0 = .ok (.iconst 0, 1) := by decide +kernel
theorem d32_1 : decode jdk_48_method_14_code 1 = .ok (.istore 5, 2) := by decide +kernel
theorem d32_3 : decode jdk_48_method_14_code 3 = .ok (.iload 4, 2) := by decide +kernel
theorem d32_5 : decode jdk_48_method_14_code 5 = .ok (.bipush 7, 2) := by decide +kernel
theorem d32_7 : decode jdk_48_method_14_code 7 = .ok (.if_icmp .le 63, 3) := by decide +kernel
theorem d32_70 : decode jdk_48_method_14_code 70 = .ok (.iload 5, 2) := by decide +kernel
theorem d32_72 : decode jdk_48_method_14_code 72 = .ok (.iload 4, 2) := by decide +kernel
theorem d32_74 : decode jdk_48_method_14_code 74 = .ok (.if_icmp .ge 27, 3) := by decide +kernel
theorem d32_77 : decode jdk_48_method_14_code 77 = .ok (.aload_n 0, 1) := by decide +kernel
theorem d32_78 : decode jdk_48_method_14_code 78 = .ok (.iload_n 1, 1) := by decide +kernel
theorem d32_79 : decode jdk_48_method_14_code 79 = .ok (.iload 5, 2) := by decide +kernel
theorem d32_81 : decode jdk_48_method_14_code 81 = .ok (.iadd, 1) := by decide +kernel
theorem d32_82 : decode jdk_48_method_14_code 82 = .ok (.baload, 1) := by decide +kernel
theorem d32_83 : decode jdk_48_method_14_code 83 = .ok (.aload_n 2, 1) := by decide +kernel
theorem d32_84 : decode jdk_48_method_14_code 84 = .ok (.iload_n 3, 1) := by decide +kernel
theorem d32_85 : decode jdk_48_method_14_code 85 = .ok (.iload 5, 2) := by decide +kernel
theorem d32_87 : decode jdk_48_method_14_code 87 = .ok (.iadd, 1) := by decide +kernel
theorem d32_88 : decode jdk_48_method_14_code 88 = .ok (.baload, 1) := by decide +kernel
theorem d32_89 : decode jdk_48_method_14_code 89 = .ok (.if_icmp .eq 6, 3) := by decide +kernel
theorem d32_95 : decode jdk_48_method_14_code 95 = .ok (.iinc 5 1, 3) := by decide +kernel
theorem d32_98 : decode jdk_48_method_14_code 98 = .ok (.goto (-28), 3) := by decide +kernel
theorem d32_101 : decode jdk_48_method_14_code 101 = .ok (.iconst (-1), 1) := by decide +kernel
theorem d32_102 : decode jdk_48_method_14_code 102 = .ok (.ireturn, 1) := by decide +kernel
theorem ef_32_RIRII (m : MethodId) (x0 : Addr) (x1 : Int32) (x2 : Addr) (x3 : Int32) (x4 : Int32) : entryFrame m #[(.ref x0), (.int x1), (.ref x2), (.int x3), (.int x4)] 8 = mkF m 0 #[vr x0, vi x1, vr x2, vi x3, vi x4, .unset, .unset, .unset] [] := by first | (simp [entryFrame, mkF, argsToLocals, Value.category]; done) | rfl
theorem pn_33 : plainName "jdk/internal/util/ArraysSupport" = true := by first | (simp [plainName, overriddenIn]; done) | decide +kernel
def Qrm32 (Z : State) (a1 : Addr) (a2 : Addr) (k3 : ClassId) (p4 : Int32) (p5 : Int32) (k8 : ClassId) (h0 : Heap) (n0 : Nat) (v : Option Value) (h : Heap) (L : List Loc) : Prop := v = some (.int (-1)) ∧ Fr n0 L ∧ h = h0
set_option maxRecDepth 65536 in
set_option maxHeartbeats 40000000 in
theorem rm32 (l : Launch) (Z : State) (a0 : Array Value) (hw : ∀ d ∈ tables_1, d.before a0 Z = true) (ws : List Jvm.Cond) (a1 : Addr) (a2 : Addr) (k3 : ClassId) (p4 : Int32) (p5 : Int32) (k8 : ClassId) (h0 : Heap) (n0 : Nat) (O0 : Old Z n0 h0) (V_6 : Arv Z h0 a1 k3 .byte (2 : Int32) [(.int p4), (.int p5)] (.int 0)) (V_9 : Arv Z h0 a2 k8 .byte (1 : Int32) [(.int 45)] (.int (0 : Int32))) (hc11 : p4 = (45 : Int32)) :
    MF l Z h0 (⟨"jdk/internal/util/ArraysSupport", "mismatch", "([BI[BII)I"⟩ : MethodName) jdk_48_method_14_code 8 (some .int) ws (⟨0, 0, 0, 0⟩ : Room) #[(.ref a1), (.int 0), (.ref a2), (.int 0), (.int 1)] (Qrm32 Z a1 a2 k3 p4 p5 k8 h0 n0) := by
  refine MetFree.of_bodySF (plainFor_of_name pn_33) hisR ?_
  intro p e s m args below meth c s₁ Bd hml0 hP hK
  obtain ⟨rfl, hZ, hh⟩ := hP
  have hx := Bd.exec
  have hby := Bd.bytes
  have X0 : Stand p l e (⟨0, 0, 0, 0⟩ : Room) s m #[(.ref a1), (.int 0), (.ref a2), (.int 0), (.int 1)] below meth c s₁ [] 0 0 := Stand.of_body Bd
  have e0 : s₁.heap = h0 := by rw [← hh, Bd.state]; rfl
  have N0 := Fr.nil n0
  have pre0 : ∀ t, Steps p.tables e below (s₁.setTop (mkF m 0 #[vr a1, vi 0, vr a2, vi 0, vi 1, .unset, .unset, .unset] [])) t → Steps p.tables e below (s₁.setTop (entryFrame m #[(.ref a1), (.int 0), (.ref a2), (.int 0), (.int 1)] 8)) t := fun t k => castTop (ef_32_RIRII m a1 (0 : Int32) a2 (0 : Int32) (1 : Int32)) k
  obtain ⟨cl7, Ar7, q7, S7, M7, Hs7, G7⟩ := id V_6
  have hin7 : ¬ ((0 : Int32) < 0 ∨ cl7.slots.size ≤ ((0 : Int32)).toNatClampNeg) := inb_of S7 ⟨by decide, by decide⟩
  have hat7 : cl7.slots[((0 : Int32)).toNatClampNeg]? = some (.int p4) := Has.at Hs7 hin7 rfl
  obtain ⟨cl10, Ar10, q10, S10, M10, Hs10, G10⟩ := id V_9
  have hin10 : ¬ ((0 : Int32) < 0 ∨ cl10.slots.size ≤ ((0 : Int32)).toNatClampNeg) := inb_of S10 ⟨by decide, by decide⟩
  have hat10 : cl10.slots[((0 : Int32)).toNatClampNeg]? = some (.int 45) := Has.at Hs10 hin10 rfl
  obtain ⟨fs, hr, hrun, hended, hW, hsame⟩ := X0.leave (v := some (.int (-1))) (fun h => by rw [Bd.returns] at h; cases h)
  refine ⟨_, _, pre0 _ ?_, hrun, hended, _, _, rfl, ?_, ⟨_, rfl⟩, hW, hsame.mono (by decide) (by decide)⟩
  · show Steps p.tables e below (s₁.setTop (mkF m 0 #[vr a1, vi 0, vr a2, vi 0, vi 1, .unset, .unset, .unset] [])) _
    refine XS.iconst X0.here hx rfl (hb hby d32_0) ?_
    refine XS.istore X0.here hx rfl (hb hby d32_1) rfl (l' := #[vr a1, vi 0, vr a2, vi 0, vi 1, vi 0, .unset, .unset]) rfl ?_
    refine XS.iload X0.here hx rfl (hb hby d32_3) rfl ?_
    refine XS.bipush X0.here hx rfl (hb hby d32_5) ?_
    refine XS.icmpYes X0.here hx rfl (pc0 := 7) (pc' := 70) rfl (hb hby d32_7) rfl (flt ((by decide) : ¬ ((7 : Int32) < (1 : Int32)))).2.2.2 (by decide) (by decide) ?_
    refine XS.iload X0.here hx rfl (hb hby d32_70) rfl ?_
    refine XS.iload X0.here hx rfl (hb hby d32_72) rfl ?_
    refine XS.icmpNo X0.here hx rfl (hb hby d32_74) rfl (tlt ((by decide) : (0 : Int32) < (1 : Int32))).2.1 ?_
    refine XS.aloadN X0.here hx rfl (hb hby d32_77) rfl rfl ?_
    refine XS.iloadN X0.here hx rfl (hb hby d32_78) rfl ?_
    show Steps p.tables e below (s₁.setTop (mkF m 79 #[vr a1, vi 0, vr a2, vi 0, vi 1, vi 0, .unset, .unset] [(.int 0), (.ref a1)])) _
    refine XS.iload X0.here hx rfl (hb hby d32_79) rfl ?_
    refine XS.iadd X0.here hx rfl (hb hby d32_81) rfl ?_
    show Steps p.tables e below (s₁.setTop (mkF m 82 #[vr a1, vi 0, vr a2, vi 0, vi 1, vi 0, .unset, .unset] [(.int ((0 : Int32) + (0 : Int32))), (.ref a1)])) _
    rw [show ((0 : Int32) + (0 : Int32)) = (0 : Int32) from by decide]
    refine X0.baloadBytes hx (j := (0 : Int32)) (v := (.int p4)) (by rw [e0]; exact Ar7.1) (State.isArrayOf_alike hZ.alike Ar7.2.1) Ar7.2.2 hin7 hat7 (g := (mkF m 82 #[vr a1, vi 0, vr a2, vi 0, vi 1, vi 0, .unset, .unset] [(.int 0), (.ref a1)])) rfl rfl (hb hby d32_82) _ ?_
    refine XS.aloadN X0.here hx rfl (hb hby d32_83) rfl rfl ?_
    refine XS.iloadN X0.here hx rfl (hb hby d32_84) rfl ?_
    refine XS.iload X0.here hx rfl (hb hby d32_85) rfl ?_
    refine XS.iadd X0.here hx rfl (hb hby d32_87) rfl ?_
    show Steps p.tables e below (s₁.setTop (mkF m 88 #[vr a1, vi 0, vr a2, vi 0, vi 1, vi 0, .unset, .unset] [(.int ((0 : Int32) + (0 : Int32))), (.ref a2), (.int p4)])) _
    rw [show ((0 : Int32) + (0 : Int32)) = (0 : Int32) from by decide]
    refine X0.baloadBytes hx (j := (0 : Int32)) (v := (.int 45)) (by rw [e0]; exact Ar10.1) (State.isArrayOf_alike hZ.alike Ar10.2.1) Ar10.2.2 hin10 hat10 (g := (mkF m 88 #[vr a1, vi 0, vr a2, vi 0, vi 1, vi 0, .unset, .unset] [(.int 0), (.ref a2), (.int p4)])) rfl rfl (hb hby d32_88) _ ?_
    refine XS.icmpYes X0.here hx rfl (pc0 := 89) (pc' := 95) rfl (hb hby d32_89) rfl (teq (hc11 : p4 = (45 : Int32))).1 (by decide) (by decide) ?_
    refine XS.iinc X0.here hx rfl (hb hby d32_95) rfl (l' := #[vr a1, vi 0, vr a2, vi 0, vi 1, vi 1, .unset, .unset]) rfl ?_
    refine XS.goto X0.here hx rfl (pc0 := 98) (pc' := 70) rfl (hb hby d32_98) (by decide) (by decide) ?_
    refine XS.iload X0.here hx rfl (hb hby d32_70) rfl ?_
    refine XS.iload X0.here hx rfl (hb hby d32_72) rfl ?_
    refine XS.icmpYes X0.here hx rfl (pc0 := 74) (pc' := 101) rfl (hb hby d32_74) rfl (flt ((by decide) : ¬ ((1 : Int32) < (1 : Int32)))).2.1 (by decide) (by decide) ?_
    refine XS.iconst X0.here hx rfl (hb hby d32_101) ?_
    exact retI X0 hx Bd.returns (hb hby d32_102) hr
  · show Qrm32 Z a1 a2 k3 p4 p5 k8 h0 n0 _ s₁.heap _
    rw [e0]
    exact ⟨rfl, N0, rfl⟩
theorem pd_34 : parseMethodDescriptor "([BI[BII)I" = some ⟨[(.array .byte), .int, (.array .byte), .int, .int], some .int⟩ := by decide +kernel
theorem d29_73 : decode jdk_42_method_75_code 73 = .ok (.ifCond .ge 7, 3) := by decide +kernel
theorem d29_76 : decode jdk_42_method_75_code 76 = .ok (.iconst 1, 1) := by decide +kernel
theorem d29_77 : decode jdk_42_method_75_code 77 = .ok (.goto 4, 3) := by decide +kernel
theorem d29_81 : decode jdk_42_method_75_code 81 = .ok (.ireturn, 1) := by decide +kernel
theorem ef_29_RRI (m : MethodId) (x0 : Addr) (x1 : Addr) (x2 : Int32) : entryFrame m #[(.ref x0), (.ref x1), (.int x2)] 8 = mkF m 0 #[vr x0, vr x1, vi x2, .unset, .unset, .unset, .unset, .unset] [] := by first | (simp [entryFrame, mkF, argsToLocals, Value.category]; done) | rfl
def Qrm29 (Z : State) (a1 : Addr) (a2 : Addr) (a4 : Addr) (k6 : ClassId) (p7 : Int32) (p8 : Int32) (p10 : Int32) (a16 : Addr) (k18 : ClassId) (h0 : Heap) (n0 : Nat) (v : Option Value) (h : Heap) (L : List Loc) : Prop := v = some (.int 1) ∧ Fr n0 L ∧ h = h0
set_option maxRecDepth 65536 in
set_option maxHeartbeats 40000000 in
theorem rm29 (l : Launch) (Z : State) (a0 : Array Value) (hw : ∀ d ∈ tables_1, d.before a0 Z = true) (ws : List Jvm.Cond) (a1 : Addr) (a2 : Addr) (a4 : Addr) (k6 : ClassId) (p7 : Int32) (p8 : Int32) (p10 : Int32) (a16 : Addr) (k18 : ClassId) (h0 : Heap) (n0 : Nat) (O0 : Old Z n0 h0) (E_3 : Exa Z h0 a1 "java/lang/String") (F_5 : Fld Z h0 a1 "java/lang/String" "value" "[B" (.ref a4)) (V_9 : Arv Z h0 a4 k6 .byte (2 : Int32) [(.int p7), (.int p8)] (.int 0)) (S_11 : Sta Z Z.heap "java/lang/String" "COMPACT_STRINGS" "Z" (.int p10)) (hc12 : ¬ (p10 = (0 : Int32))) (F_13 : Fld Z h0 a1 "java/lang/String" "coder" "B" (.int 0)) (E_15 : Exa Z h0 a2 "java/lang/String") (F_17 : Fld Z h0 a2 "java/lang/String" "value" "[B" (.ref a16)) (V_19 : Arv Z h0 a16 k18 .byte (1 : Int32) [(.int 45)] (.int (0 : Int32))) (F_20 : Fld Z h0 a2 "java/lang/String" "coder" "B" (.int 0)) (hc27 : p7 = (45 : Int32)) :
    MF l Z h0 (⟨"java/lang/String", "startsWith", "(Ljava/lang/String;I)Z"⟩ : MethodName) jdk_42_method_75_code 8 (some .boolean) ws (⟨2, 0, 0, 27⟩ : Room) #[(.ref a1), (.ref a2), (.int 0)] (Qrm29 Z a1 a2 a4 k6 p7 p8 p10 a16 k18 h0 n0) := by
  refine MetFree.of_bodySF (plainFor_of_name pn_4) hisR ?_
  intro p e s m args below meth c s₁ Bd hml0 hP hK
  obtain ⟨rfl, hZ, hh⟩ := hP
  have hx := Bd.exec
  have hby := Bd.bytes
  have hml : c.maxLocals = 8 := hml0
  have hown : s.vm.findClass "java/lang/String" = some m.cls := findClass_of_methodNamed Bd.named
  have X0 : Stand p l e (⟨2, 0, 0, 27⟩ : Room) s m #[(.ref a1), (.ref a2), (.int 0)] below meth c s₁ [] 0 0 := Stand.of_body Bd
  have e0 : s₁.heap = h0 := by rw [← hh, Bd.state]; rfl
  have N0 := Fr.nil n0
  have pre0 : ∀ t, Steps p.tables e below (s₁.setTop (mkF m 0 #[vr a1, vr a2, vi 0, .unset, .unset, .unset, .unset, .unset] [])) t → Steps p.tables e below (s₁.setTop (entryFrame m #[(.ref a1), (.ref a2), (.int 0)] 8)) t := fun t k => castTop (ef_29_RRI m a1 a2 (0 : Int32)) k
  obtain ⟨_, T14, L14, X14, hQ14, st14⟩ := cV X0 hx hZ hown (W hw 168 rfl) (W hw 169 rfl) (notFace_of_selects (args := #[]) (mvT hZ (W hw 171 rfl))) (W hw 171 rfl) (W hw 170 rfl) (W hw 172 rfl) (W hw 2 rfl) (by decide) (rm30 l Z a0 hw [] a1 a4 k6 p7 p8 p10 h0 n0 O0 F_5 V_9 E_3 S_11 hc12 F_13) e0 E_3 #[vr a1, vr a2, vi 0, .unset, .unset, .unset, .unset, .unset] [(.int 0)] (by rw [hml]; rfl) (hb hby d29_6) pd_23 rfl (W := 1) (Nat.le_of_eq rfl) (by decide) (by decide) (by decide) (by decide)
  obtain ⟨rfl, Nq14, e14⟩ := hQ14
  have N14 := Fr.app N0 Nq14
  obtain ⟨_, T21, L21, X21, hQ21, st21⟩ := cV X14 hx hZ hown (W hw 168 rfl) (W hw 169 rfl) (notFace_of_selects (args := #[]) (mvT hZ (W hw 171 rfl))) (W hw 171 rfl) (W hw 170 rfl) (W hw 172 rfl) (W hw 2 rfl) (by decide) (rm30_1 l Z a0 hw [] a2 a16 k18 p10 h0 n0 O0 F_17 V_19 E_15 S_11 hc12 F_20) e14 E_15 #[vr a1, vr a2, vi 0, .unset, .unset, .unset, .unset, .unset] [(.int 2), (.int 0)] (by rw [hml]; rfl) (hb hby d29_10) pd_23 rfl (W := 2) (Nat.le_of_eq rfl) (by decide) (by decide) (by decide) (by decide)
  obtain ⟨rfl, Nq21, e21⟩ := hQ21
  have N21 := Fr.app N14 Nq21
  obtain ⟨T22, X22, e22, st22⟩ := getF X21 hx hZ hown (host := "") (Or.inl (W hw 28 rfl)) Via.refl e21 F_5 (g := (mkF m 20 #[vr a1, vr a2, vi 0, .unset, .unset, .unset, .unset, .unset] [(.ref a1)])) rfl rfl (hb hby d29_20)
  obtain ⟨T23, X23, e23, st23⟩ := getF X22 hx hZ hown (host := "") (Or.inl (W hw 28 rfl)) Via.refl e22 F_17 (g := (mkF m 25 #[vr a1, vr a2, vi 0, vr a4, .unset, .unset, .unset, .unset] [(.ref a2)])) rfl rfl (hb hby d29_25)
  obtain ⟨cl24, Ar24, q24, S24, M24, Hs24, G24⟩ := id V_19
  obtain ⟨_, T25, L25, X25, hQ25, st25⟩ := cV X23 hx hZ hown (W hw 173 rfl) (W hw 174 rfl) (notFace_of_selects (args := #[]) (mvT hZ (W hw 176 rfl))) (W hw 176 rfl) (W hw 175 rfl) (W hw 177 rfl) (W hw 2 rfl) (by decide) (rm31 l Z a0 hw [] a1 p10 h0 n0 O0 S_11 hc12 F_13) e23 E_3 #[vr a1, vr a2, vi 0, vr a4, vr a16, vi 0, vi 1, .unset] [] (by rw [hml]; rfl) (hb hby d29_39) pd_32 rfl (W := 0) (Nat.le_of_eq rfl) (by decide) (by decide) (by decide) (by decide)
  obtain ⟨rfl, Nq25, e25⟩ := hQ25
  have N25 := Fr.app N21 Nq25
  obtain ⟨_, T26, L26, X26, hQ26, st26⟩ := cV X25 hx hZ hown (W hw 173 rfl) (W hw 174 rfl) (notFace_of_selects (args := #[]) (mvT hZ (W hw 176 rfl))) (W hw 176 rfl) (W hw 175 rfl) (W hw 177 rfl) (W hw 2 rfl) (by decide) (rm31 l Z a0 hw [] a2 p10 h0 n0 O0 S_11 hc12 F_20) e25 E_15 #[vr a1, vr a2, vi 0, vr a4, vr a16, vi 0, vi 1, vi 0] [(.int 0)] (by rw [hml]; rfl) (hb hby d29_47) pd_32 rfl (W := 1) (Nat.le_of_eq rfl) (by decide) (by decide) (by decide) (by decide)
  obtain ⟨rfl, Nq26, e26⟩ := hQ26
  have N26 := Fr.app N25 Nq26
  obtain ⟨_, T28, L28, X28, hQ28, st28⟩ := cS X26 hx hZ hown (W hw 178 rfl) (W hw 179 rfl) (W hw 180 rfl) (W hw 181 rfl) (by decide) (rm32 l Z a0 hw [] a4 a16 k6 p7 p8 k18 h0 n0 O0 V_9 V_19 hc27) e26 #[vr a1, vr a2, vi 0, vr a4, vr a16, vi 0, vi 1, vi 0] [] (by rw [hml]; rfl) (hb hby d29_70) pd_34 rfl (W := 0) (Nat.le_of_eq rfl) (by decide) (by decide) (by decide) (by decide)
  obtain ⟨rfl, Nq28, e28⟩ := hQ28
  have N28 := Fr.app N26 Nq28
  obtain ⟨fs, hr, hrun, hended, hW, hsame⟩ := X28.leave (v := some (.int 1)) (fun h => by rw [Bd.returns] at h; cases h)
  refine ⟨_, _, pre0 _ ?_, hrun, hended, _, _, rfl, ?_, ⟨_, rfl⟩, hW, hsame.mono (by decide) (by decide)⟩
  · show Steps p.tables e below (s₁.setTop (mkF m 0 #[vr a1, vr a2, vi 0, .unset, .unset, .unset, .unset, .unset] [])) _
    refine XS.iloadN X0.here hx rfl (hb hby d29_0) rfl ?_
    refine XS.ifNo X0.here hx rfl (hb hby d29_1) rfl ((if0 _ _).trans (flt ((by decide) : ¬ ((0 : Int32) < (0 : Int32)))).1) ?_
    refine XS.iloadN X0.here hx rfl (hb hby d29_4) rfl ?_
    refine XS.aloadN X0.here hx rfl (hb hby d29_5) rfl rfl ?_
    refine st14 _ ?_
    refine XS.aloadN X14.here hx rfl (hb hby d29_9) rfl rfl ?_
    refine st21 _ ?_
    refine XS.isub X21.here hx rfl (hb hby d29_13) rfl ?_
    show Steps p.tables e below (T21.setTop (mkF m 14 #[vr a1, vr a2, vi 0, .unset, .unset, .unset, .unset, .unset] [(.int ((2 : Int32) - (1 : Int32))), (.int 0)])) _
    rw [show ((2 : Int32) - (1 : Int32)) = (1 : Int32) from by decide]
    refine XS.icmpYes X21.here hx rfl (pc0 := 14) (pc' := 19) rfl (hb hby d29_14) rfl (flt ((by decide) : ¬ ((1 : Int32) < (0 : Int32)))).2.2.2 (by decide) (by decide) ?_
    refine XS.aloadN X21.here hx rfl (hb hby d29_19) rfl rfl ?_
    refine st22 _ ?_
    refine XS.astoreN X22.here hx rfl (hb hby d29_23) rfl rfl (l' := #[vr a1, vr a2, vi 0, vr a4, .unset, .unset, .unset, .unset]) rfl ?_
    refine XS.aloadN X22.here hx rfl (hb hby d29_24) rfl rfl ?_
    refine st23 _ ?_
    refine XS.astore X23.here hx rfl (hb hby d29_28) rfl rfl (l' := #[vr a1, vr a2, vi 0, vr a4, vr a16, .unset, .unset, .unset]) rfl ?_
    refine XS.iconst X23.here hx rfl (hb hby d29_30) ?_
    refine XS.istore X23.here hx rfl (hb hby d29_31) rfl (l' := #[vr a1, vr a2, vi 0, vr a4, vr a16, vi 0, .unset, .unset]) rfl ?_
    show Steps p.tables e below (T23.setTop (mkF m 33 #[vr a1, vr a2, vi 0, vr a4, vr a16, vi 0, .unset, .unset] [])) _
    refine XS.aload X23.here hx rfl (hb hby d29_33) rfl rfl ?_
    refine X23.arraylength hx (by rw [e23]; exact Ar24.1) (State.isArrayOf_alike hZ.alike Ar24.2.1) (g := (mkF m 35 #[vr a1, vr a2, vi 0, vr a4, vr a16, vi 0, .unset, .unset] [(.ref a16)])) rfl rfl (hb hby d29_35) _ ?_
    rw [len_of S24 M24]
    refine XS.istore X23.here hx rfl (hb hby d29_36) rfl (l' := #[vr a1, vr a2, vi 0, vr a4, vr a16, vi 0, vi 1, .unset]) rfl ?_
    refine XS.aloadN X23.here hx rfl (hb hby d29_38) rfl rfl ?_
    refine st25 _ ?_
    refine XS.istore X25.here hx rfl (hb hby d29_42) rfl (l' := #[vr a1, vr a2, vi 0, vr a4, vr a16, vi 0, vi 1, vi 0]) rfl ?_
    refine XS.iload X25.here hx rfl (hb hby d29_44) rfl ?_
    refine XS.aloadN X25.here hx rfl (hb hby d29_46) rfl rfl ?_
    refine st26 _ ?_
    show Steps p.tables e below (T26.setTop (mkF m 50 #[vr a1, vr a2, vi 0, vr a4, vr a16, vi 0, vi 1, vi 0] [(.int 0), (.int 0)])) _
    refine XS.icmpNo X26.here hx rfl (hb hby d29_50) rfl (teq ((by decide) : (0 : Int32) = (0 : Int32))).2 ?_
    refine XS.iload X26.here hx rfl (hb hby d29_53) rfl ?_
    refine XS.iconst X26.here hx rfl (hb hby d29_55) ?_
    refine XS.icmpYes X26.here hx rfl (pc0 := 56) (pc' := 63) rfl (hb hby d29_56) rfl (feq ((by decide) : ¬ ((0 : Int32) = (1 : Int32)))).2 (by decide) (by decide) ?_
    refine XS.aloadN X26.here hx rfl (hb hby d29_63) rfl rfl ?_
    refine XS.iloadN X26.here hx rfl (hb hby d29_64) rfl ?_
    refine XS.aload X26.here hx rfl (hb hby d29_65) rfl rfl ?_
    refine XS.iconst X26.here hx rfl (hb hby d29_67) ?_
    refine XS.iload X26.here hx rfl (hb hby d29_68) rfl ?_
    refine st28 _ ?_
    show Steps p.tables e below (T28.setTop (mkF m 73 #[vr a1, vr a2, vi 0, vr a4, vr a16, vi 0, vi 1, vi 0] [(.int (-1))])) _
    refine XS.ifNo X28.here hx rfl (hb hby d29_73) rfl ((if0 _ _).trans (tlt ((by decide) : (-1 : Int32) < (0 : Int32))).2.1) ?_
    refine XS.iconst X28.here hx rfl (hb hby d29_76) ?_
    refine XS.goto X28.here hx rfl (pc0 := 77) (pc' := 81) rfl (hb hby d29_77) (by decide) (by decide) ?_
    exact retN X28 hx (t := .boolean) Bd.returns (by simp) (hb hby d29_81) hr
  · show Qrm29 Z a1 a2 a4 k6 p7 p8 p10 a16 k18 h0 n0 _ T28.heap _
    rw [e28]
    exact ⟨rfl, N28, rfl⟩
theorem pd_35 : parseMethodDescriptor "(Ljava/lang/String;I)Z" = some ⟨[(.object "java/lang/String"), .int], some .boolean⟩ := by decide +kernel
theorem d28_6 : decode jdk_42_method_76_code 6 = .ok (.ireturn, 1) := by decide +kernel
theorem ef_28_RR (m : MethodId) (x0 : Addr) (x1 : Addr) : entryFrame m #[(.ref x0), (.ref x1)] 2 = mkF m 0 #[vr x0, vr x1] [] := by first | (simp [entryFrame, mkF, argsToLocals, Value.category]; done) | rfl
def Qrm28 (Z : State) (a1 : Addr) (a2 : Addr) (a4 : Addr) (k6 : ClassId) (p7 : Int32) (p8 : Int32) (p10 : Int32) (a15 : Addr) (k17 : ClassId) (h0 : Heap) (n0 : Nat) (v : Option Value) (h : Heap) (L : List Loc) : Prop := v = some (.int 1) ∧ Fr n0 L ∧ h = h0
set_option maxRecDepth 65536 in
set_option maxHeartbeats 40000000 in
theorem rm28 (l : Launch) (Z : State) (a0 : Array Value) (hw : ∀ d ∈ tables_1, d.before a0 Z = true) (ws : List Jvm.Cond) (a1 : Addr) (a2 : Addr) (a4 : Addr) (k6 : ClassId) (p7 : Int32) (p8 : Int32) (p10 : Int32) (a15 : Addr) (k17 : ClassId) (h0 : Heap) (n0 : Nat) (O0 : Old Z n0 h0) (E_3 : Exa Z h0 a1 "java/lang/String") (F_5 : Fld Z h0 a1 "java/lang/String" "value" "[B" (.ref a4)) (V_9 : Arv Z h0 a4 k6 .byte (2 : Int32) [(.int p7), (.int p8)] (.int 0)) (S_11 : Sta Z Z.heap "java/lang/String" "COMPACT_STRINGS" "Z" (.int p10)) (hc12 : ¬ (p10 = (0 : Int32))) (F_13 : Fld Z h0 a1 "java/lang/String" "coder" "B" (.int 0)) (E_14 : Exa Z h0 a2 "java/lang/String") (F_16 : Fld Z h0 a2 "java/lang/String" "value" "[B" (.ref a15)) (V_18 : Arv Z h0 a15 k17 .byte (1 : Int32) [(.int 45)] (.int (0 : Int32))) (F_19 : Fld Z h0 a2 "java/lang/String" "coder" "B" (.int 0)) (hc20 : p7 = (45 : Int32)) :
    MF l Z h0 (⟨"java/lang/String", "startsWith", "(Ljava/lang/String;)Z"⟩ : MethodName) jdk_42_method_76_code 2 (some .boolean) ws (⟨3, 0, 0, 46⟩ : Room) #[(.ref a1), (.ref a2)] (Qrm28 Z a1 a2 a4 k6 p7 p8 p10 a15 k17 h0 n0) := by
  refine MetFree.of_bodySF (plainFor_of_name pn_4) hisR ?_
  intro p e s m args below meth c s₁ Bd hml0 hP hK
  obtain ⟨rfl, hZ, hh⟩ := hP
  have hx := Bd.exec
  have hby := Bd.bytes
  have hml : c.maxLocals = 2 := hml0
  have hown : s.vm.findClass "java/lang/String" = some m.cls := findClass_of_methodNamed Bd.named
  have X0 : Stand p l e (⟨3, 0, 0, 46⟩ : Room) s m #[(.ref a1), (.ref a2)] below meth c s₁ [] 0 0 := Stand.of_body Bd
  have e0 : s₁.heap = h0 := by rw [← hh, Bd.state]; rfl
  have N0 := Fr.nil n0
  have pre0 : ∀ t, Steps p.tables e below (s₁.setTop (mkF m 0 #[vr a1, vr a2] [])) t → Steps p.tables e below (s₁.setTop (entryFrame m #[(.ref a1), (.ref a2)] 2)) t := fun t k => castTop (ef_28_RR m a1 a2) k
  obtain ⟨_, T21, L21, X21, hQ21, st21⟩ := cV X0 hx hZ hown (W hw 163 rfl) (W hw 164 rfl) (notFace_of_selects (args := #[]) (mvT hZ (W hw 166 rfl))) (W hw 166 rfl) (W hw 165 rfl) (W hw 167 rfl) (W hw 2 rfl) (by decide) (rm29 l Z a0 hw [] a1 a2 a4 k6 p7 p8 p10 a15 k17 h0 n0 O0 E_3 F_5 V_9 S_11 hc12 F_13 E_14 F_16 V_18 F_19 hc20) e0 E_3 #[vr a1, vr a2] [] (by rw [hml]; rfl) (hb hby d28_3) pd_35 rfl (W := 0) (Nat.le_of_eq rfl) (by decide) (by decide) (by decide) (by decide)
  obtain ⟨rfl, Nq21, e21⟩ := hQ21
  have N21 := Fr.app N0 Nq21
  obtain ⟨fs, hr, hrun, hended, hW, hsame⟩ := X21.leave (v := some (.int 1)) (fun h => by rw [Bd.returns] at h; cases h)
  refine ⟨_, _, pre0 _ ?_, hrun, hended, _, _, rfl, ?_, ⟨_, rfl⟩, hW, hsame.mono (by decide) (by decide)⟩
  · show Steps p.tables e below (s₁.setTop (mkF m 0 #[vr a1, vr a2] [])) _
    refine XS.aloadN X0.here hx rfl (hb hby d28_0) rfl rfl ?_
    refine XS.aloadN X0.here hx rfl (hb hby d28_1) rfl rfl ?_
    refine XS.iconst X0.here hx rfl (hb hby d28_2) ?_
    refine st21 _ ?_
    exact retN X21 hx (t := .boolean) Bd.returns (by simp) (hb hby d28_6) hr
  · show Qrm28 Z a1 a2 a4 k6 p7 p8 p10 a15 k17 h0 n0 _ T21.heap _
    rw [e21]
    exact ⟨rfl, N21, rfl⟩
theorem pd_36 : parseMethodDescriptor "(Ljava/lang/String;)Z" = some ⟨[(.object "java/lang/String")], some .boolean⟩ := by decide +kernel
theorem d20_62 : decode prog_1_method_2_code 62 = .ok (.ifCond .eq 12, 3) := by decide +kernel
theorem d20_65 : decode prog_1_method_2_code 65 = .ok (.aload_n 1, 1) := by decide +kernel
theorem d20_66 : decode prog_1_method_2_code 66 = .ok (.ldc 35, 2) := by decide +kernel
theorem d20_68 : decode prog_1_method_2_code 68 = .ok (.invokevirtual 31, 3) := by decide +kernel
theorem d27_34 : decode jdk_43_method_13_code 34 = .ok (.iconst 0, 1) := by decide +kernel
theorem d27_35 : decode jdk_43_method_13_code 35 = .ok (.ireturn, 1) := by decide +kernel
def Qrm27_2 (Z : State) (a1 : Addr) (a2 : Addr) (k3 : ClassId) (p4 : Int32) (p5 : Int32) (k8 : ClassId) (h0 : Heap) (n0 : Nat) (v : Option Value) (h : Heap) (L : List Loc) : Prop := v = some (.int 0) ∧ Fr n0 L ∧ h = h0
set_option maxRecDepth 65536 in
set_option maxHeartbeats 40000000 in
theorem rm27_2 (l : Launch) (Z : State) (a0 : Array Value) (hw : ∀ d ∈ tables_1, d.before a0 Z = true) (ws : List Jvm.Cond) (a1 : Addr) (a2 : Addr) (k3 : ClassId) (p4 : Int32) (p5 : Int32) (k8 : ClassId) (h0 : Heap) (n0 : Nat) (O0 : Old Z n0 h0) (V_6 : Arv Z h0 a1 k3 .byte (2 : Int32) [(.int p4), (.int p5)] (.int 0)) (V_9 : Arv Z h0 a2 k8 .byte (1 : Int32) [(.int 45)] (.int (0 : Int32))) :
    MF l Z h0 (⟨"java/lang/StringLatin1", "equals", "([B[B)Z"⟩ : MethodName) jdk_43_method_13_code 3 (some .boolean) ws (⟨0, 0, 0, 0⟩ : Room) #[(.ref a1), (.ref a2)] (Qrm27_2 Z a1 a2 k3 p4 p5 k8 h0 n0) := by
  refine MetFree.of_bodySF (plainFor_of_name pn_7) hisR ?_
  intro p e s m args below meth c s₁ Bd hml0 hP hK
  obtain ⟨rfl, hZ, hh⟩ := hP
  have hx := Bd.exec
  have hby := Bd.bytes
  have X0 : Stand p l e (⟨0, 0, 0, 0⟩ : Room) s m #[(.ref a1), (.ref a2)] below meth c s₁ [] 0 0 := Stand.of_body Bd
  have e0 : s₁.heap = h0 := by rw [← hh, Bd.state]; rfl
  have N0 := Fr.nil n0
  have pre0 : ∀ t, Steps p.tables e below (s₁.setTop (mkF m 0 #[vr a1, vr a2, .unset] [])) t → Steps p.tables e below (s₁.setTop (entryFrame m #[(.ref a1), (.ref a2)] 3)) t := fun t k => castTop (ef_27_RR m a1 a2) k
  obtain ⟨cl7, Ar7, q7, S7, M7, Hs7, G7⟩ := id V_6
  obtain ⟨cl10, Ar10, q10, S10, M10, Hs10, G10⟩ := id V_9
  obtain ⟨fs, hr, hrun, hended, hW, hsame⟩ := X0.leave (v := some (.int 0)) (fun h => by rw [Bd.returns] at h; cases h)
  refine ⟨_, _, pre0 _ ?_, hrun, hended, _, _, rfl, ?_, ⟨_, rfl⟩, hW, hsame.mono (by decide) (by decide)⟩
  · show Steps p.tables e below (s₁.setTop (mkF m 0 #[vr a1, vr a2, .unset] [])) _
    refine XS.aloadN X0.here hx rfl (hb hby d27_0) rfl rfl ?_
    refine X0.arraylength hx (by rw [e0]; exact Ar7.1) (State.isArrayOf_alike hZ.alike Ar7.2.1) (g := (mkF m 1 #[vr a1, vr a2, .unset] [(.ref a1)])) rfl rfl (hb hby d27_1) _ ?_
    rw [len_of S7 M7]
    refine XS.aloadN X0.here hx rfl (hb hby d27_2) rfl rfl ?_
    refine X0.arraylength hx (by rw [e0]; exact Ar10.1) (State.isArrayOf_alike hZ.alike Ar10.2.1) (g := (mkF m 3 #[vr a1, vr a2, .unset] [(.ref a2), (.int 2)])) rfl rfl (hb hby d27_3) _ ?_
    rw [len_of S10 M10]
    refine XS.icmpYes X0.here hx rfl (pc0 := 4) (pc' := 34) rfl (hb hby d27_4) rfl (feq ((by decide) : ¬ ((2 : Int32) = (1 : Int32)))).2 (by decide) (by decide) ?_
    refine XS.iconst X0.here hx rfl (hb hby d27_34) ?_
    exact retN X0 hx (t := .boolean) Bd.returns (by simp) (hb hby d27_35) hr
  · show Qrm27_2 Z a1 a2 k3 p4 p5 k8 h0 n0 _ s₁.heap _
    rw [e0]
    exact ⟨rfl, N0, rfl⟩
def Qrm26_2 (Z : State) (a1 : Addr) (a2 : Addr) (p6 : Int32) (a14 : Addr) (a17 : Addr) (k20 : ClassId) (p21 : Int32) (p22 : Int32) (k24 : ClassId) (h0 : Heap) (n0 : Nat) (v : Option Value) (h : Heap) (L : List Loc) : Prop := v = some (.int 0) ∧ Fr n0 L ∧ h = h0
set_option maxRecDepth 65536 in
set_option maxHeartbeats 40000000 in
theorem rm26_2 (l : Launch) (Z : State) (a0 : Array Value) (hw : ∀ d ∈ tables_1, d.before a0 Z = true) (ws : List Jvm.Cond) (a1 : Addr) (a2 : Addr) (p6 : Int32) (a14 : Addr) (a17 : Addr) (k20 : ClassId) (p21 : Int32) (p22 : Int32) (k24 : ClassId) (h0 : Heap) (n0 : Nat) (O0 : Old Z n0 h0) (ne_a1_a2 : a1 ≠ a2) (E_3 : Exa Z h0 a2 "java/lang/String") (S_7 : Sta Z Z.heap "java/lang/String" "COMPACT_STRINGS" "Z" (.int p6)) (hc9 : ¬ (p6 = (0 : Int32))) (F_10 : Fld Z h0 a1 "java/lang/String" "coder" "B" (.int 0)) (F_12 : Fld Z h0 a2 "java/lang/String" "coder" "B" (.int 0)) (F_15 : Fld Z h0 a1 "java/lang/String" "value" "[B" (.ref a14)) (F_18 : Fld Z h0 a2 "java/lang/String" "value" "[B" (.ref a17)) (V_23 : Arv Z h0 a14 k20 .byte (2 : Int32) [(.int p21), (.int p22)] (.int 0)) (V_25 : Arv Z h0 a17 k24 .byte (1 : Int32) [(.int 45)] (.int (0 : Int32))) :
    MF l Z h0 (⟨"java/lang/String", "equals", "(Ljava/lang/Object;)Z"⟩ : MethodName) jdk_42_method_66_code 3 (some .boolean) ws (⟨1, 0, 0, 14⟩ : Room) #[(.ref a1), (.ref a2)] (Qrm26_2 Z a1 a2 p6 a14 a17 k20 p21 p22 k24 h0 n0) := by
  refine MetFree.of_bodySF (plainFor_of_name pn_4) hisR ?_
  intro p e s m args below meth c s₁ Bd hml0 hP hK
  obtain ⟨rfl, hZ, hh⟩ := hP
  have hx := Bd.exec
  have hby := Bd.bytes
  have hml : c.maxLocals = 3 := hml0
  have hown : s.vm.findClass "java/lang/String" = some m.cls := findClass_of_methodNamed Bd.named
  have X0 : Stand p l e (⟨1, 0, 0, 14⟩ : Room) s m #[(.ref a1), (.ref a2)] below meth c s₁ [] 0 0 := Stand.of_body Bd
  have e0 : s₁.heap = h0 := by rw [← hh, Bd.state]; rfl
  have N0 := Fr.nil n0
  have pre0 : ∀ t, Steps p.tables e below (s₁.setTop (mkF m 0 #[vr a1, vr a2, .unset] [])) t → Steps p.tables e below (s₁.setTop (entryFrame m #[(.ref a1), (.ref a2)] 3)) t := fun t k => castTop (ef_26_RR m a1 a2) k
  obtain ⟨T4, X4, e4, st4⟩ := instY X0 hx hZ hown (W hw 37 rfl) e0 (Ins.self E_3) (g := (mkF m 8 #[vr a1, vr a2, .unset] [(.ref a2)])) rfl rfl (hb hby d26_8)
  obtain ⟨T5, X5, e5, st5⟩ := castY X4 hx hZ hown (W hw 37 rfl) e4 (Ins.self E_3) (g := (mkF m 15 #[vr a1, vr a2, .unset] [(.ref a2)])) rfl rfl (hb hby d26_15)
  obtain ⟨T8, X8, e8, st8⟩ := getS2 X5 hx hZ hown (host := "") (Or.inl (W hw 14 rfl)) Via.refl e5 (S_7.ext O0.2) (g := (mkF m 19 #[vr a1, vr a2, vr a2] [])) rfl (hb hby d26_19)
  obtain ⟨T11, X11, e11, st11⟩ := getF X8 hx hZ hown (host := "") (Or.inl (W hw 26 rfl)) Via.refl e8 F_10 (g := (mkF m 26 #[vr a1, vr a2, vr a2] [(.ref a1)])) rfl rfl (hb hby d26_26)
  obtain ⟨T13, X13, e13, st13⟩ := getF X11 hx hZ hown (host := "") (Or.inl (W hw 26 rfl)) Via.refl e11 F_12 (g := (mkF m 30 #[vr a1, vr a2, vr a2] [(.ref a2), (.int 0)])) rfl rfl (hb hby d26_30)
  obtain ⟨T16, X16, e16, st16⟩ := getF X13 hx hZ hown (host := "") (Or.inl (W hw 28 rfl)) Via.refl e13 F_15 (g := (mkF m 37 #[vr a1, vr a2, vr a2] [(.ref a1)])) rfl rfl (hb hby d26_37)
  obtain ⟨T19, X19, e19, st19⟩ := getF X16 hx hZ hown (host := "") (Or.inl (W hw 28 rfl)) Via.refl e16 F_18 (g := (mkF m 41 #[vr a1, vr a2, vr a2] [(.ref a2), (.ref a14)])) rfl rfl (hb hby d26_41)
  obtain ⟨_, T26, L26, X26, hQ26, st26⟩ := cS X19 hx hZ hown (W hw 154 rfl) (W hw 155 rfl) (W hw 35 rfl) (W hw 156 rfl) (by decide) (rm27_2 l Z a0 hw [] a14 a17 k20 p21 p22 k24 h0 n0 O0 V_23 V_25) e19 #[vr a1, vr a2, vr a2] [] (by rw [hml]; rfl) (hb hby d26_44) pd_28 rfl (W := 0) (Nat.le_of_eq rfl) (by decide) (by decide) (by decide) (by decide)
  obtain ⟨rfl, Nq26, e26⟩ := hQ26
  have N26 := Fr.app N0 Nq26
  obtain ⟨fs, hr, hrun, hended, hW, hsame⟩ := X26.leave (v := some (.int 0)) (fun h => by rw [Bd.returns] at h; cases h)
  refine ⟨_, _, pre0 _ ?_, hrun, hended, _, _, rfl, ?_, ⟨_, rfl⟩, hW, hsame.mono (by decide) (by decide)⟩
  · show Steps p.tables e below (s₁.setTop (mkF m 0 #[vr a1, vr a2, .unset] [])) _
    refine XS.aloadN X0.here hx rfl (hb hby d26_0) rfl rfl ?_
    refine XS.aloadN X0.here hx rfl (hb hby d26_1) rfl rfl ?_
    refine Jvm.RoadKit.acmp (g := (mkF m 2 #[vr a1, vr a2, .unset] [(.ref a2), (.ref a1)])) X0 hx rfl rfl rfl (pc0 := 2) (pc' := 7) (same := false) rfl (hb hby d26_2) rfl (decide_eq_false fun q => ne_a1_a2 (Value.ref.inj q)) (by decide) (by decide) ?_
    refine XS.aloadN X0.here hx rfl (hb hby d26_7) rfl rfl ?_
    refine st4 _ ?_
    refine XS.ifNo X4.here hx rfl (hb hby d26_11) rfl ((if0 _ _).trans (feq ((by decide) : ¬ ((1 : Int32) = (0 : Int32)))).1) ?_
    refine XS.aloadN X4.here hx rfl (hb hby d26_14) rfl rfl ?_
    refine st5 _ ?_
    refine XS.astoreN X5.here hx rfl (hb hby d26_18) rfl rfl (l' := #[vr a1, vr a2, vr a2]) rfl ?_
    refine st8 _ ?_
    show Steps p.tables e below (T8.setTop (mkF m 22 #[vr a1, vr a2, vr a2] [(.int p6)])) _
    refine XS.ifNo X8.here hx rfl (hb hby d26_22) rfl ((if0 _ _).trans (feq (hc9 : ¬ (p6 = (0 : Int32)))).1) ?_
    refine XS.aloadN X8.here hx rfl (hb hby d26_25) rfl rfl ?_
    refine st11 _ ?_
    refine XS.aloadN X11.here hx rfl (hb hby d26_29) rfl rfl ?_
    refine st13 _ ?_
    refine XS.icmpNo X13.here hx rfl (hb hby d26_33) rfl (teq ((by decide) : (0 : Int32) = (0 : Int32))).2 ?_
    refine XS.aloadN X13.here hx rfl (hb hby d26_36) rfl rfl ?_
    refine st16 _ ?_
    refine XS.aloadN X16.here hx rfl (hb hby d26_40) rfl rfl ?_
    refine st19 _ ?_
    show Steps p.tables e below (T19.setTop (mkF m 44 #[vr a1, vr a2, vr a2] [(.ref a17), (.ref a14)])) _
    refine st26 _ ?_
    refine XS.ifYes X26.here hx rfl (pc0 := 47) (pc' := 54) rfl (hb hby d26_47) rfl ((if0 _ _).trans (teq ((by decide) : (0 : Int32) = (0 : Int32))).1) (by decide) (by decide) ?_
    refine XS.iconst X26.here hx rfl (hb hby d26_54) ?_
    exact retN X26 hx (t := .boolean) Bd.returns (by simp) (hb hby d26_55) hr
  · show Qrm26_2 Z a1 a2 p6 a14 a17 k20 p21 p22 k24 h0 n0 _ T26.heap _
    rw [e26]
    exact ⟨rfl, N26, rfl⟩
theorem d20_71 : decode prog_1_method_2_code 71 = .ok (.ifCond .eq 5, 3) := by decide +kernel
theorem d20_76 : decode prog_1_method_2_code 76 = .ok (.aload_n 0, 1) := by decide +kernel
theorem d20_77 : decode prog_1_method_2_code 77 = .ok (.dup, 1) := by decide +kernel
theorem d20_78 : decode prog_1_method_2_code 78 = .ok (.getfield 13, 3) := by decide +kernel
theorem d20_81 : decode prog_1_method_2_code 81 = .ok (.iconst 1, 1) := by decide +kernel
theorem d20_82 : decode prog_1_method_2_code 82 = .ok (.iadd, 1) := by decide +kernel
theorem d20_83 : decode prog_1_method_2_code 83 = .ok (.putfield 13, 3) := by decide +kernel
theorem d20_86 : decode prog_1_method_2_code 86 = .ok (.aload_n 1, 1) := by decide +kernel
theorem d20_87 : decode prog_1_method_2_code 87 = .ok (.ldc 29, 2) := by decide +kernel
theorem d20_89 : decode prog_1_method_2_code 89 = .ok (.invokevirtual 37, 3) := by decide +kernel
theorem d32_92 : decode jdk_48_method_14_code 92 = .ok (.iload 5, 2) := by decide +kernel
theorem d32_94 : decode jdk_48_method_14_code 94 = .ok (.ireturn, 1) := by decide +kernel
def Qrm32_1 (Z : State) (a1 : Addr) (a2 : Addr) (k3 : ClassId) (p4 : Int32) (p5 : Int32) (k8 : ClassId) (h0 : Heap) (n0 : Nat) (v : Option Value) (h : Heap) (L : List Loc) : Prop := v = some (.int 1) ∧ Fr n0 L ∧ h = h0
set_option maxRecDepth 65536 in
set_option maxHeartbeats 40000000 in
theorem rm32_1 (l : Launch) (Z : State) (a0 : Array Value) (hw : ∀ d ∈ tables_1, d.before a0 Z = true) (ws : List Jvm.Cond) (a1 : Addr) (a2 : Addr) (k3 : ClassId) (p4 : Int32) (p5 : Int32) (k8 : ClassId) (h0 : Heap) (n0 : Nat) (O0 : Old Z n0 h0) (V_6 : Arv Z h0 a1 k3 .byte (2 : Int32) [(.int p4), (.int p5)] (.int 0)) (V_9 : Arv Z h0 a2 k8 .byte (2 : Int32) [(.int 45), (.int 45)] (.int (0 : Int32))) (hc11 : p4 = (45 : Int32)) (hc14 : ¬ (p5 = (45 : Int32))) :
    MF l Z h0 (⟨"jdk/internal/util/ArraysSupport", "mismatch", "([BI[BII)I"⟩ : MethodName) jdk_48_method_14_code 8 (some .int) ws (⟨0, 0, 0, 0⟩ : Room) #[(.ref a1), (.int 0), (.ref a2), (.int 0), (.int 2)] (Qrm32_1 Z a1 a2 k3 p4 p5 k8 h0 n0) := by
  refine MetFree.of_bodySF (plainFor_of_name pn_33) hisR ?_
  intro p e s m args below meth c s₁ Bd hml0 hP hK
  obtain ⟨rfl, hZ, hh⟩ := hP
  have hx := Bd.exec
  have hby := Bd.bytes
  have X0 : Stand p l e (⟨0, 0, 0, 0⟩ : Room) s m #[(.ref a1), (.int 0), (.ref a2), (.int 0), (.int 2)] below meth c s₁ [] 0 0 := Stand.of_body Bd
  have e0 : s₁.heap = h0 := by rw [← hh, Bd.state]; rfl
  have N0 := Fr.nil n0
  have pre0 : ∀ t, Steps p.tables e below (s₁.setTop (mkF m 0 #[vr a1, vi 0, vr a2, vi 0, vi 2, .unset, .unset, .unset] [])) t → Steps p.tables e below (s₁.setTop (entryFrame m #[(.ref a1), (.int 0), (.ref a2), (.int 0), (.int 2)] 8)) t := fun t k => castTop (ef_32_RIRII m a1 (0 : Int32) a2 (0 : Int32) (2 : Int32)) k
  obtain ⟨cl7, Ar7, q7, S7, M7, Hs7, G7⟩ := id V_6
  have hin7 : ¬ ((0 : Int32) < 0 ∨ cl7.slots.size ≤ ((0 : Int32)).toNatClampNeg) := inb_of S7 ⟨by decide, by decide⟩
  have hat7 : cl7.slots[((0 : Int32)).toNatClampNeg]? = some (.int p4) := Has.at Hs7 hin7 rfl
  obtain ⟨cl10, Ar10, q10, S10, M10, Hs10, G10⟩ := id V_9
  have hin10 : ¬ ((0 : Int32) < 0 ∨ cl10.slots.size ≤ ((0 : Int32)).toNatClampNeg) := inb_of S10 ⟨by decide, by decide⟩
  have hat10 : cl10.slots[((0 : Int32)).toNatClampNeg]? = some (.int 45) := Has.at Hs10 hin10 rfl
  obtain ⟨cl12, Ar12, q12, S12, M12, Hs12, G12⟩ := id V_6
  have hin12 : ¬ ((1 : Int32) < 0 ∨ cl12.slots.size ≤ ((1 : Int32)).toNatClampNeg) := inb_of S12 ⟨by decide, by decide⟩
  have hat12 : cl12.slots[((1 : Int32)).toNatClampNeg]? = some (.int p5) := Has.at Hs12 hin12 rfl
  obtain ⟨cl13, Ar13, q13, S13, M13, Hs13, G13⟩ := id V_9
  have hin13 : ¬ ((1 : Int32) < 0 ∨ cl13.slots.size ≤ ((1 : Int32)).toNatClampNeg) := inb_of S13 ⟨by decide, by decide⟩
  have hat13 : cl13.slots[((1 : Int32)).toNatClampNeg]? = some (.int 45) := Has.at Hs13 hin13 rfl
  obtain ⟨fs, hr, hrun, hended, hW, hsame⟩ := X0.leave (v := some (.int 1)) (fun h => by rw [Bd.returns] at h; cases h)
  refine ⟨_, _, pre0 _ ?_, hrun, hended, _, _, rfl, ?_, ⟨_, rfl⟩, hW, hsame.mono (by decide) (by decide)⟩
  · show Steps p.tables e below (s₁.setTop (mkF m 0 #[vr a1, vi 0, vr a2, vi 0, vi 2, .unset, .unset, .unset] [])) _
    refine XS.iconst X0.here hx rfl (hb hby d32_0) ?_
    refine XS.istore X0.here hx rfl (hb hby d32_1) rfl (l' := #[vr a1, vi 0, vr a2, vi 0, vi 2, vi 0, .unset, .unset]) rfl ?_
    refine XS.iload X0.here hx rfl (hb hby d32_3) rfl ?_
    refine XS.bipush X0.here hx rfl (hb hby d32_5) ?_
    refine XS.icmpYes X0.here hx rfl (pc0 := 7) (pc' := 70) rfl (hb hby d32_7) rfl (flt ((by decide) : ¬ ((7 : Int32) < (2 : Int32)))).2.2.2 (by decide) (by decide) ?_
    refine XS.iload X0.here hx rfl (hb hby d32_70) rfl ?_
    refine XS.iload X0.here hx rfl (hb hby d32_72) rfl ?_
    refine XS.icmpNo X0.here hx rfl (hb hby d32_74) rfl (tlt ((by decide) : (0 : Int32) < (2 : Int32))).2.1 ?_
    refine XS.aloadN X0.here hx rfl (hb hby d32_77) rfl rfl ?_
    refine XS.iloadN X0.here hx rfl (hb hby d32_78) rfl ?_
    show Steps p.tables e below (s₁.setTop (mkF m 79 #[vr a1, vi 0, vr a2, vi 0, vi 2, vi 0, .unset, .unset] [(.int 0), (.ref a1)])) _
    refine XS.iload X0.here hx rfl (hb hby d32_79) rfl ?_
    refine XS.iadd X0.here hx rfl (hb hby d32_81) rfl ?_
    show Steps p.tables e below (s₁.setTop (mkF m 82 #[vr a1, vi 0, vr a2, vi 0, vi 2, vi 0, .unset, .unset] [(.int ((0 : Int32) + (0 : Int32))), (.ref a1)])) _
    rw [show ((0 : Int32) + (0 : Int32)) = (0 : Int32) from by decide]
    refine X0.baloadBytes hx (j := (0 : Int32)) (v := (.int p4)) (by rw [e0]; exact Ar7.1) (State.isArrayOf_alike hZ.alike Ar7.2.1) Ar7.2.2 hin7 hat7 (g := (mkF m 82 #[vr a1, vi 0, vr a2, vi 0, vi 2, vi 0, .unset, .unset] [(.int 0), (.ref a1)])) rfl rfl (hb hby d32_82) _ ?_
    refine XS.aloadN X0.here hx rfl (hb hby d32_83) rfl rfl ?_
    refine XS.iloadN X0.here hx rfl (hb hby d32_84) rfl ?_
    refine XS.iload X0.here hx rfl (hb hby d32_85) rfl ?_
    refine XS.iadd X0.here hx rfl (hb hby d32_87) rfl ?_
    show Steps p.tables e below (s₁.setTop (mkF m 88 #[vr a1, vi 0, vr a2, vi 0, vi 2, vi 0, .unset, .unset] [(.int ((0 : Int32) + (0 : Int32))), (.ref a2), (.int p4)])) _
    rw [show ((0 : Int32) + (0 : Int32)) = (0 : Int32) from by decide]
    refine X0.baloadBytes hx (j := (0 : Int32)) (v := (.int 45)) (by rw [e0]; exact Ar10.1) (State.isArrayOf_alike hZ.alike Ar10.2.1) Ar10.2.2 hin10 hat10 (g := (mkF m 88 #[vr a1, vi 0, vr a2, vi 0, vi 2, vi 0, .unset, .unset] [(.int 0), (.ref a2), (.int p4)])) rfl rfl (hb hby d32_88) _ ?_
    refine XS.icmpYes X0.here hx rfl (pc0 := 89) (pc' := 95) rfl (hb hby d32_89) rfl (teq (hc11 : p4 = (45 : Int32))).1 (by decide) (by decide) ?_
    refine XS.iinc X0.here hx rfl (hb hby d32_95) rfl (l' := #[vr a1, vi 0, vr a2, vi 0, vi 2, vi 1, .unset, .unset]) rfl ?_
    refine XS.goto X0.here hx rfl (pc0 := 98) (pc' := 70) rfl (hb hby d32_98) (by decide) (by decide) ?_
    refine XS.iload X0.here hx rfl (hb hby d32_70) rfl ?_
    refine XS.iload X0.here hx rfl (hb hby d32_72) rfl ?_
    refine XS.icmpNo X0.here hx rfl (hb hby d32_74) rfl (tlt ((by decide) : (1 : Int32) < (2 : Int32))).2.1 ?_
    refine XS.aloadN X0.here hx rfl (hb hby d32_77) rfl rfl ?_
    refine XS.iloadN X0.here hx rfl (hb hby d32_78) rfl ?_
    show Steps p.tables e below (s₁.setTop (mkF m 79 #[vr a1, vi 0, vr a2, vi 0, vi 2, vi 1, .unset, .unset] [(.int 0), (.ref a1)])) _
    refine XS.iload X0.here hx rfl (hb hby d32_79) rfl ?_
    refine XS.iadd X0.here hx rfl (hb hby d32_81) rfl ?_
    show Steps p.tables e below (s₁.setTop (mkF m 82 #[vr a1, vi 0, vr a2, vi 0, vi 2, vi 1, .unset, .unset] [(.int ((0 : Int32) + (1 : Int32))), (.ref a1)])) _
    rw [show ((0 : Int32) + (1 : Int32)) = (1 : Int32) from by decide]
    refine X0.baloadBytes hx (j := (1 : Int32)) (v := (.int p5)) (by rw [e0]; exact Ar12.1) (State.isArrayOf_alike hZ.alike Ar12.2.1) Ar12.2.2 hin12 hat12 (g := (mkF m 82 #[vr a1, vi 0, vr a2, vi 0, vi 2, vi 1, .unset, .unset] [(.int 1), (.ref a1)])) rfl rfl (hb hby d32_82) _ ?_
    refine XS.aloadN X0.here hx rfl (hb hby d32_83) rfl rfl ?_
    refine XS.iloadN X0.here hx rfl (hb hby d32_84) rfl ?_
    refine XS.iload X0.here hx rfl (hb hby d32_85) rfl ?_
    refine XS.iadd X0.here hx rfl (hb hby d32_87) rfl ?_
    show Steps p.tables e below (s₁.setTop (mkF m 88 #[vr a1, vi 0, vr a2, vi 0, vi 2, vi 1, .unset, .unset] [(.int ((0 : Int32) + (1 : Int32))), (.ref a2), (.int p5)])) _
    rw [show ((0 : Int32) + (1 : Int32)) = (1 : Int32) from by decide]
    refine X0.baloadBytes hx (j := (1 : Int32)) (v := (.int 45)) (by rw [e0]; exact Ar13.1) (State.isArrayOf_alike hZ.alike Ar13.2.1) Ar13.2.2 hin13 hat13 (g := (mkF m 88 #[vr a1, vi 0, vr a2, vi 0, vi 2, vi 1, .unset, .unset] [(.int 1), (.ref a2), (.int p5)])) rfl rfl (hb hby d32_88) _ ?_
    refine XS.icmpNo X0.here hx rfl (hb hby d32_89) rfl (feq (hc14 : ¬ (p5 = (45 : Int32)))).1 ?_
    refine XS.iload X0.here hx rfl (hb hby d32_92) rfl ?_
    exact retI X0 hx Bd.returns (hb hby d32_94) hr
  · show Qrm32_1 Z a1 a2 k3 p4 p5 k8 h0 n0 _ s₁.heap _
    rw [e0]
    exact ⟨rfl, N0, rfl⟩
theorem d29_80 : decode jdk_42_method_75_code 80 = .ok (.iconst 0, 1) := by decide +kernel
def Qrm29_1 (Z : State) (a1 : Addr) (a2 : Addr) (a4 : Addr) (k6 : ClassId) (p7 : Int32) (p8 : Int32) (p10 : Int32) (a16 : Addr) (k18 : ClassId) (h0 : Heap) (n0 : Nat) (v : Option Value) (h : Heap) (L : List Loc) : Prop := v = some (.int 0) ∧ Fr n0 L ∧ h = h0
set_option maxRecDepth 65536 in
set_option maxHeartbeats 40000000 in
theorem rm29_1 (l : Launch) (Z : State) (a0 : Array Value) (hw : ∀ d ∈ tables_1, d.before a0 Z = true) (ws : List Jvm.Cond) (a1 : Addr) (a2 : Addr) (a4 : Addr) (k6 : ClassId) (p7 : Int32) (p8 : Int32) (p10 : Int32) (a16 : Addr) (k18 : ClassId) (h0 : Heap) (n0 : Nat) (O0 : Old Z n0 h0) (E_3 : Exa Z h0 a1 "java/lang/String") (F_5 : Fld Z h0 a1 "java/lang/String" "value" "[B" (.ref a4)) (V_9 : Arv Z h0 a4 k6 .byte (2 : Int32) [(.int p7), (.int p8)] (.int 0)) (S_11 : Sta Z Z.heap "java/lang/String" "COMPACT_STRINGS" "Z" (.int p10)) (hc12 : ¬ (p10 = (0 : Int32))) (F_13 : Fld Z h0 a1 "java/lang/String" "coder" "B" (.int 0)) (E_15 : Exa Z h0 a2 "java/lang/String") (F_17 : Fld Z h0 a2 "java/lang/String" "value" "[B" (.ref a16)) (V_19 : Arv Z h0 a16 k18 .byte (2 : Int32) [(.int 45), (.int 45)] (.int (0 : Int32))) (F_20 : Fld Z h0 a2 "java/lang/String" "coder" "B" (.int 0)) (hc27 : p7 = (45 : Int32)) (hc28 : ¬ (p8 = (45 : Int32))) :
    MF l Z h0 (⟨"java/lang/String", "startsWith", "(Ljava/lang/String;I)Z"⟩ : MethodName) jdk_42_method_75_code 8 (some .boolean) ws (⟨2, 0, 0, 27⟩ : Room) #[(.ref a1), (.ref a2), (.int 0)] (Qrm29_1 Z a1 a2 a4 k6 p7 p8 p10 a16 k18 h0 n0) := by
  refine MetFree.of_bodySF (plainFor_of_name pn_4) hisR ?_
  intro p e s m args below meth c s₁ Bd hml0 hP hK
  obtain ⟨rfl, hZ, hh⟩ := hP
  have hx := Bd.exec
  have hby := Bd.bytes
  have hml : c.maxLocals = 8 := hml0
  have hown : s.vm.findClass "java/lang/String" = some m.cls := findClass_of_methodNamed Bd.named
  have X0 : Stand p l e (⟨2, 0, 0, 27⟩ : Room) s m #[(.ref a1), (.ref a2), (.int 0)] below meth c s₁ [] 0 0 := Stand.of_body Bd
  have e0 : s₁.heap = h0 := by rw [← hh, Bd.state]; rfl
  have N0 := Fr.nil n0
  have pre0 : ∀ t, Steps p.tables e below (s₁.setTop (mkF m 0 #[vr a1, vr a2, vi 0, .unset, .unset, .unset, .unset, .unset] [])) t → Steps p.tables e below (s₁.setTop (entryFrame m #[(.ref a1), (.ref a2), (.int 0)] 8)) t := fun t k => castTop (ef_29_RRI m a1 a2 (0 : Int32)) k
  obtain ⟨_, T14, L14, X14, hQ14, st14⟩ := cV X0 hx hZ hown (W hw 168 rfl) (W hw 169 rfl) (notFace_of_selects (args := #[]) (mvT hZ (W hw 171 rfl))) (W hw 171 rfl) (W hw 170 rfl) (W hw 172 rfl) (W hw 2 rfl) (by decide) (rm30 l Z a0 hw [] a1 a4 k6 p7 p8 p10 h0 n0 O0 F_5 V_9 E_3 S_11 hc12 F_13) e0 E_3 #[vr a1, vr a2, vi 0, .unset, .unset, .unset, .unset, .unset] [(.int 0)] (by rw [hml]; rfl) (hb hby d29_6) pd_23 rfl (W := 1) (Nat.le_of_eq rfl) (by decide) (by decide) (by decide) (by decide)
  obtain ⟨rfl, Nq14, e14⟩ := hQ14
  have N14 := Fr.app N0 Nq14
  obtain ⟨_, T21, L21, X21, hQ21, st21⟩ := cV X14 hx hZ hown (W hw 168 rfl) (W hw 169 rfl) (notFace_of_selects (args := #[]) (mvT hZ (W hw 171 rfl))) (W hw 171 rfl) (W hw 170 rfl) (W hw 172 rfl) (W hw 2 rfl) (by decide) (rm30 l Z a0 hw [] a2 a16 k18 (45 : Int32) (45 : Int32) p10 h0 n0 O0 F_17 V_19 E_15 S_11 hc12 F_20) e14 E_15 #[vr a1, vr a2, vi 0, .unset, .unset, .unset, .unset, .unset] [(.int 2), (.int 0)] (by rw [hml]; rfl) (hb hby d29_10) pd_23 rfl (W := 2) (Nat.le_of_eq rfl) (by decide) (by decide) (by decide) (by decide)
  obtain ⟨rfl, Nq21, e21⟩ := hQ21
  have N21 := Fr.app N14 Nq21
  obtain ⟨T22, X22, e22, st22⟩ := getF X21 hx hZ hown (host := "") (Or.inl (W hw 28 rfl)) Via.refl e21 F_5 (g := (mkF m 20 #[vr a1, vr a2, vi 0, .unset, .unset, .unset, .unset, .unset] [(.ref a1)])) rfl rfl (hb hby d29_20)
  obtain ⟨T23, X23, e23, st23⟩ := getF X22 hx hZ hown (host := "") (Or.inl (W hw 28 rfl)) Via.refl e22 F_17 (g := (mkF m 25 #[vr a1, vr a2, vi 0, vr a4, .unset, .unset, .unset, .unset] [(.ref a2)])) rfl rfl (hb hby d29_25)
  obtain ⟨cl24, Ar24, q24, S24, M24, Hs24, G24⟩ := id V_19
  obtain ⟨_, T25, L25, X25, hQ25, st25⟩ := cV X23 hx hZ hown (W hw 173 rfl) (W hw 174 rfl) (notFace_of_selects (args := #[]) (mvT hZ (W hw 176 rfl))) (W hw 176 rfl) (W hw 175 rfl) (W hw 177 rfl) (W hw 2 rfl) (by decide) (rm31 l Z a0 hw [] a1 p10 h0 n0 O0 S_11 hc12 F_13) e23 E_3 #[vr a1, vr a2, vi 0, vr a4, vr a16, vi 0, vi 2, .unset] [] (by rw [hml]; rfl) (hb hby d29_39) pd_32 rfl (W := 0) (Nat.le_of_eq rfl) (by decide) (by decide) (by decide) (by decide)
  obtain ⟨rfl, Nq25, e25⟩ := hQ25
  have N25 := Fr.app N21 Nq25
  obtain ⟨_, T26, L26, X26, hQ26, st26⟩ := cV X25 hx hZ hown (W hw 173 rfl) (W hw 174 rfl) (notFace_of_selects (args := #[]) (mvT hZ (W hw 176 rfl))) (W hw 176 rfl) (W hw 175 rfl) (W hw 177 rfl) (W hw 2 rfl) (by decide) (rm31 l Z a0 hw [] a2 p10 h0 n0 O0 S_11 hc12 F_20) e25 E_15 #[vr a1, vr a2, vi 0, vr a4, vr a16, vi 0, vi 2, vi 0] [(.int 0)] (by rw [hml]; rfl) (hb hby d29_47) pd_32 rfl (W := 1) (Nat.le_of_eq rfl) (by decide) (by decide) (by decide) (by decide)
  obtain ⟨rfl, Nq26, e26⟩ := hQ26
  have N26 := Fr.app N25 Nq26
  obtain ⟨_, T29, L29, X29, hQ29, st29⟩ := cS X26 hx hZ hown (W hw 178 rfl) (W hw 179 rfl) (W hw 180 rfl) (W hw 181 rfl) (by decide) (rm32_1 l Z a0 hw [] a4 a16 k6 p7 p8 k18 h0 n0 O0 V_9 V_19 hc27 hc28) e26 #[vr a1, vr a2, vi 0, vr a4, vr a16, vi 0, vi 2, vi 0] [] (by rw [hml]; rfl) (hb hby d29_70) pd_34 rfl (W := 0) (Nat.le_of_eq rfl) (by decide) (by decide) (by decide) (by decide)
  obtain ⟨rfl, Nq29, e29⟩ := hQ29
  have N29 := Fr.app N26 Nq29
  obtain ⟨fs, hr, hrun, hended, hW, hsame⟩ := X29.leave (v := some (.int 0)) (fun h => by rw [Bd.returns] at h; cases h)
  refine ⟨_, _, pre0 _ ?_, hrun, hended, _, _, rfl, ?_, ⟨_, rfl⟩, hW, hsame.mono (by decide) (by decide)⟩
  · show Steps p.tables e below (s₁.setTop (mkF m 0 #[vr a1, vr a2, vi 0, .unset, .unset, .unset, .unset, .unset] [])) _
    refine XS.iloadN X0.here hx rfl (hb hby d29_0) rfl ?_
    refine XS.ifNo X0.here hx rfl (hb hby d29_1) rfl ((if0 _ _).trans (flt ((by decide) : ¬ ((0 : Int32) < (0 : Int32)))).1) ?_
    refine XS.iloadN X0.here hx rfl (hb hby d29_4) rfl ?_
    refine XS.aloadN X0.here hx rfl (hb hby d29_5) rfl rfl ?_
    refine st14 _ ?_
    refine XS.aloadN X14.here hx rfl (hb hby d29_9) rfl rfl ?_
    refine st21 _ ?_
    refine XS.isub X21.here hx rfl (hb hby d29_13) rfl ?_
    show Steps p.tables e below (T21.setTop (mkF m 14 #[vr a1, vr a2, vi 0, .unset, .unset, .unset, .unset, .unset] [(.int ((2 : Int32) - (2 : Int32))), (.int 0)])) _
    rw [show ((2 : Int32) - (2 : Int32)) = (0 : Int32) from by decide]
    refine XS.icmpYes X21.here hx rfl (pc0 := 14) (pc' := 19) rfl (hb hby d29_14) rfl (flt ((by decide) : ¬ ((0 : Int32) < (0 : Int32)))).2.2.2 (by decide) (by decide) ?_
    refine XS.aloadN X21.here hx rfl (hb hby d29_19) rfl rfl ?_
    refine st22 _ ?_
    refine XS.astoreN X22.here hx rfl (hb hby d29_23) rfl rfl (l' := #[vr a1, vr a2, vi 0, vr a4, .unset, .unset, .unset, .unset]) rfl ?_
    refine XS.aloadN X22.here hx rfl (hb hby d29_24) rfl rfl ?_
    refine st23 _ ?_
    refine XS.astore X23.here hx rfl (hb hby d29_28) rfl rfl (l' := #[vr a1, vr a2, vi 0, vr a4, vr a16, .unset, .unset, .unset]) rfl ?_
    refine XS.iconst X23.here hx rfl (hb hby d29_30) ?_
    refine XS.istore X23.here hx rfl (hb hby d29_31) rfl (l' := #[vr a1, vr a2, vi 0, vr a4, vr a16, vi 0, .unset, .unset]) rfl ?_
    show Steps p.tables e below (T23.setTop (mkF m 33 #[vr a1, vr a2, vi 0, vr a4, vr a16, vi 0, .unset, .unset] [])) _
    refine XS.aload X23.here hx rfl (hb hby d29_33) rfl rfl ?_
    refine X23.arraylength hx (by rw [e23]; exact Ar24.1) (State.isArrayOf_alike hZ.alike Ar24.2.1) (g := (mkF m 35 #[vr a1, vr a2, vi 0, vr a4, vr a16, vi 0, .unset, .unset] [(.ref a16)])) rfl rfl (hb hby d29_35) _ ?_
    rw [len_of S24 M24]
    refine XS.istore X23.here hx rfl (hb hby d29_36) rfl (l' := #[vr a1, vr a2, vi 0, vr a4, vr a16, vi 0, vi 2, .unset]) rfl ?_
    refine XS.aloadN X23.here hx rfl (hb hby d29_38) rfl rfl ?_
    refine st25 _ ?_
    refine XS.istore X25.here hx rfl (hb hby d29_42) rfl (l' := #[vr a1, vr a2, vi 0, vr a4, vr a16, vi 0, vi 2, vi 0]) rfl ?_
    refine XS.iload X25.here hx rfl (hb hby d29_44) rfl ?_
    refine XS.aloadN X25.here hx rfl (hb hby d29_46) rfl rfl ?_
    refine st26 _ ?_
    show Steps p.tables e below (T26.setTop (mkF m 50 #[vr a1, vr a2, vi 0, vr a4, vr a16, vi 0, vi 2, vi 0] [(.int 0), (.int 0)])) _
    refine XS.icmpNo X26.here hx rfl (hb hby d29_50) rfl (teq ((by decide) : (0 : Int32) = (0 : Int32))).2 ?_
    refine XS.iload X26.here hx rfl (hb hby d29_53) rfl ?_
    refine XS.iconst X26.here hx rfl (hb hby d29_55) ?_
    refine XS.icmpYes X26.here hx rfl (pc0 := 56) (pc' := 63) rfl (hb hby d29_56) rfl (feq ((by decide) : ¬ ((0 : Int32) = (1 : Int32)))).2 (by decide) (by decide) ?_
    refine XS.aloadN X26.here hx rfl (hb hby d29_63) rfl rfl ?_
    refine XS.iloadN X26.here hx rfl (hb hby d29_64) rfl ?_
    refine XS.aload X26.here hx rfl (hb hby d29_65) rfl rfl ?_
    refine XS.iconst X26.here hx rfl (hb hby d29_67) ?_
    refine XS.iload X26.here hx rfl (hb hby d29_68) rfl ?_
    refine st29 _ ?_
    show Steps p.tables e below (T29.setTop (mkF m 73 #[vr a1, vr a2, vi 0, vr a4, vr a16, vi 0, vi 2, vi 0] [(.int 1)])) _
    refine XS.ifYes X29.here hx rfl (pc0 := 73) (pc' := 80) rfl (hb hby d29_73) rfl ((if0 _ _).trans (flt ((by decide) : ¬ ((1 : Int32) < (0 : Int32)))).2.1) (by decide) (by decide) ?_
    refine XS.iconst X29.here hx rfl (hb hby d29_80) ?_
    exact retN X29 hx (t := .boolean) Bd.returns (by simp) (hb hby d29_81) hr
  · show Qrm29_1 Z a1 a2 a4 k6 p7 p8 p10 a16 k18 h0 n0 _ T29.heap _
    rw [e29]
    exact ⟨rfl, N29, rfl⟩
def Qrm28_1 (Z : State) (a1 : Addr) (a2 : Addr) (a4 : Addr) (k6 : ClassId) (p7 : Int32) (p8 : Int32) (p10 : Int32) (a15 : Addr) (k17 : ClassId) (h0 : Heap) (n0 : Nat) (v : Option Value) (h : Heap) (L : List Loc) : Prop := v = some (.int 0) ∧ Fr n0 L ∧ h = h0
set_option maxRecDepth 65536 in
set_option maxHeartbeats 40000000 in
theorem rm28_1 (l : Launch) (Z : State) (a0 : Array Value) (hw : ∀ d ∈ tables_1, d.before a0 Z = true) (ws : List Jvm.Cond) (a1 : Addr) (a2 : Addr) (a4 : Addr) (k6 : ClassId) (p7 : Int32) (p8 : Int32) (p10 : Int32) (a15 : Addr) (k17 : ClassId) (h0 : Heap) (n0 : Nat) (O0 : Old Z n0 h0) (E_3 : Exa Z h0 a1 "java/lang/String") (F_5 : Fld Z h0 a1 "java/lang/String" "value" "[B" (.ref a4)) (V_9 : Arv Z h0 a4 k6 .byte (2 : Int32) [(.int p7), (.int p8)] (.int 0)) (S_11 : Sta Z Z.heap "java/lang/String" "COMPACT_STRINGS" "Z" (.int p10)) (hc12 : ¬ (p10 = (0 : Int32))) (F_13 : Fld Z h0 a1 "java/lang/String" "coder" "B" (.int 0)) (E_14 : Exa Z h0 a2 "java/lang/String") (F_16 : Fld Z h0 a2 "java/lang/String" "value" "[B" (.ref a15)) (V_18 : Arv Z h0 a15 k17 .byte (2 : Int32) [(.int 45), (.int 45)] (.int (0 : Int32))) (F_19 : Fld Z h0 a2 "java/lang/String" "coder" "B" (.int 0)) (hc20 : p7 = (45 : Int32)) (hc21 : ¬ (p8 = (45 : Int32))) :
    MF l Z h0 (⟨"java/lang/String", "startsWith", "(Ljava/lang/String;)Z"⟩ : MethodName) jdk_42_method_76_code 2 (some .boolean) ws (⟨3, 0, 0, 46⟩ : Room) #[(.ref a1), (.ref a2)] (Qrm28_1 Z a1 a2 a4 k6 p7 p8 p10 a15 k17 h0 n0) := by
  refine MetFree.of_bodySF (plainFor_of_name pn_4) hisR ?_
  intro p e s m args below meth c s₁ Bd hml0 hP hK
  obtain ⟨rfl, hZ, hh⟩ := hP
  have hx := Bd.exec
  have hby := Bd.bytes
  have hml : c.maxLocals = 2 := hml0
  have hown : s.vm.findClass "java/lang/String" = some m.cls := findClass_of_methodNamed Bd.named
  have X0 : Stand p l e (⟨3, 0, 0, 46⟩ : Room) s m #[(.ref a1), (.ref a2)] below meth c s₁ [] 0 0 := Stand.of_body Bd
  have e0 : s₁.heap = h0 := by rw [← hh, Bd.state]; rfl
  have N0 := Fr.nil n0
  have pre0 : ∀ t, Steps p.tables e below (s₁.setTop (mkF m 0 #[vr a1, vr a2] [])) t → Steps p.tables e below (s₁.setTop (entryFrame m #[(.ref a1), (.ref a2)] 2)) t := fun t k => castTop (ef_28_RR m a1 a2) k
  obtain ⟨_, T22, L22, X22, hQ22, st22⟩ := cV X0 hx hZ hown (W hw 163 rfl) (W hw 164 rfl) (notFace_of_selects (args := #[]) (mvT hZ (W hw 166 rfl))) (W hw 166 rfl) (W hw 165 rfl) (W hw 167 rfl) (W hw 2 rfl) (by decide) (rm29_1 l Z a0 hw [] a1 a2 a4 k6 p7 p8 p10 a15 k17 h0 n0 O0 E_3 F_5 V_9 S_11 hc12 F_13 E_14 F_16 V_18 F_19 hc20 hc21) e0 E_3 #[vr a1, vr a2] [] (by rw [hml]; rfl) (hb hby d28_3) pd_35 rfl (W := 0) (Nat.le_of_eq rfl) (by decide) (by decide) (by decide) (by decide)
  obtain ⟨rfl, Nq22, e22⟩ := hQ22
  have N22 := Fr.app N0 Nq22
  obtain ⟨fs, hr, hrun, hended, hW, hsame⟩ := X22.leave (v := some (.int 0)) (fun h => by rw [Bd.returns] at h; cases h)
  refine ⟨_, _, pre0 _ ?_, hrun, hended, _, _, rfl, ?_, ⟨_, rfl⟩, hW, hsame.mono (by decide) (by decide)⟩
  · show Steps p.tables e below (s₁.setTop (mkF m 0 #[vr a1, vr a2] [])) _
    refine XS.aloadN X0.here hx rfl (hb hby d28_0) rfl rfl ?_
    refine XS.aloadN X0.here hx rfl (hb hby d28_1) rfl rfl ?_
    refine XS.iconst X0.here hx rfl (hb hby d28_2) ?_
    refine st22 _ ?_
    exact retN X22 hx (t := .boolean) Bd.returns (by simp) (hb hby d28_6) hr
  · show Qrm28_1 Z a1 a2 a4 k6 p7 p8 p10 a15 k17 h0 n0 _ T22.heap _
    rw [e22]
    exact ⟨rfl, N22, rfl⟩
theorem d20_92 : decode prog_1_method_2_code 92 = .ok (.ifCond .eq 50, 3) := by decide +kernel
theorem d20_142 : decode prog_1_method_2_code 142 = .ok (.aload_n 0, 1) := by decide +kernel
theorem d20_143 : decode prog_1_method_2_code 143 = .ok (.aload_n 1, 1) := by decide +kernel
theorem d20_144 : decode prog_1_method_2_code 144 = .ok (.iconst 0, 1) := by decide +kernel
theorem d20_145 : decode prog_1_method_2_code 145 = .ok (.iconst 2, 1) := by decide +kernel
theorem d20_146 : decode prog_1_method_2_code 146 = .ok (.invokevirtual 45, 3) := by decide +kernel
theorem d42_0 : decode jdk_42_method_92_code 0 = .ok (.aload_n 0, 1) := by decide +kernel
theorem d42_1 : decode jdk_42_method_92_code 1 = .ok (.invokevirtual 505, 3) := by decide +kernel
theorem d42_4 : decode jdk_42_method_92_code 4 = .ok (.istore_n 3, 1) := by decide +kernel
theorem d42_5 : decode jdk_42_method_92_code 5 = .ok (.iload_n 1, 1) := by decide +kernel
theorem d42_6 : decode jdk_42_method_92_code 6 = .ok (.iload_n 2, 1) := by decide +kernel
theorem d42_7 : decode jdk_42_method_92_code 7 = .ok (.iload_n 3, 1) := by decide +kernel
theorem d42_8 : decode jdk_42_method_92_code 8 = .ok (.invokestatic 521, 3) := by decide +kernel
theorem d43_0 : decode jdk_42_method_158_code 0 = .ok (.iload_n 0, 1) := by decide +kernel
theorem d43_1 : decode jdk_42_method_158_code 1 = .ok (.iload_n 1, 1) := by decide +kernel
theorem d43_2 : decode jdk_42_method_158_code 2 = .ok (.iload_n 2, 1) := by decide +kernel
theorem d43_3 : decode jdk_42_method_158_code 3 = .ok (.getstatic 1053, 3) := by decide +kernel
theorem d43_6 : decode jdk_42_method_158_code 6 = .ok (.invokestatic 1062, 3) := by decide +kernel
theorem d44_0 : decode jdk_41_method_12_code 0 = .ok (.iload_n 0, 1) := by decide +kernel
theorem d44_1 : decode jdk_41_method_12_code 1 = .ok (.ifCond .lt 13, 3) := by decide +kernel
theorem d44_4 : decode jdk_41_method_12_code 4 = .ok (.iload_n 0, 1) := by decide +kernel
theorem d44_5 : decode jdk_41_method_12_code 5 = .ok (.iload_n 1, 1) := by decide +kernel
theorem d44_6 : decode jdk_41_method_12_code 6 = .ok (.if_icmp .gt 8, 3) := by decide +kernel
theorem d44_9 : decode jdk_41_method_12_code 9 = .ok (.iload_n 1, 1) := by decide +kernel
theorem d44_10 : decode jdk_41_method_12_code 10 = .ok (.iload_n 2, 1) := by decide +kernel
theorem d44_11 : decode jdk_41_method_12_code 11 = .ok (.if_icmp .le 11, 3) := by decide +kernel
theorem d44_22 : decode jdk_41_method_12_code 22 = .ok (.iload_n 0, 1) := by decide +kernel
theorem d44_23 : decode jdk_41_method_12_code 23 = .ok (.ireturn, 1) := by decide +kernel
theorem ef_44_IIIn (m : MethodId) (x0 : Int32) (x1 : Int32) (x2 : Int32) : entryFrame m #[(.int x0), (.int x1), (.int x2), .null] 4 = mkF m 0 #[vi x0, vi x1, vi x2, .val .null] [] := by first | (simp [entryFrame, mkF, argsToLocals, Value.category]; done) | rfl
def Qrm44 (Z : State)  (h0 : Heap) (n0 : Nat) (v : Option Value) (h : Heap) (L : List Loc) : Prop := v = some (.int 0) ∧ Fr n0 L ∧ h = h0
set_option maxRecDepth 65536 in
set_option maxHeartbeats 40000000 in
theorem rm44 (l : Launch) (Z : State) (a0 : Array Value) (hw : ∀ d ∈ tables_1, d.before a0 Z = true) (ws : List Jvm.Cond)  (h0 : Heap) (n0 : Nat) (O0 : Old Z n0 h0) :
    MF l Z h0 (⟨"jdk/internal/util/Preconditions", "checkFromToIndex", "(IIILjava/util/function/BiFunction;)I"⟩ : MethodName) jdk_41_method_12_code 4 (some .int) ws (⟨0, 0, 0, 0⟩ : Room) #[(.int 0), (.int 2), (.int 2), .null] (Qrm44 Z  h0 n0) := by
  refine MetFree.of_bodySF (plainFor_of_name pn_24) hisR ?_
  intro p e s m args below meth c s₁ Bd hml0 hP hK
  obtain ⟨rfl, hZ, hh⟩ := hP
  have hx := Bd.exec
  have hby := Bd.bytes
  have X0 : Stand p l e (⟨0, 0, 0, 0⟩ : Room) s m #[(.int 0), (.int 2), (.int 2), .null] below meth c s₁ [] 0 0 := Stand.of_body Bd
  have e0 : s₁.heap = h0 := by rw [← hh, Bd.state]; rfl
  have N0 := Fr.nil n0
  have pre0 : ∀ t, Steps p.tables e below (s₁.setTop (mkF m 0 #[vi 0, vi 2, vi 2, .val .null] [])) t → Steps p.tables e below (s₁.setTop (entryFrame m #[(.int 0), (.int 2), (.int 2), .null] 4)) t := fun t k => castTop (ef_44_IIIn m (0 : Int32) (2 : Int32) (2 : Int32)) k
  obtain ⟨fs, hr, hrun, hended, hW, hsame⟩ := X0.leave (v := some (.int 0)) (fun h => by rw [Bd.returns] at h; cases h)
  refine ⟨_, _, pre0 _ ?_, hrun, hended, _, _, rfl, ?_, ⟨_, rfl⟩, hW, hsame.mono (by decide) (by decide)⟩
  · show Steps p.tables e below (s₁.setTop (mkF m 0 #[vi 0, vi 2, vi 2, .val .null] [])) _
    refine XS.iloadN X0.here hx rfl (hb hby d44_0) rfl ?_
    refine XS.ifNo X0.here hx rfl (hb hby d44_1) rfl ((if0 _ _).trans (flt ((by decide) : ¬ ((0 : Int32) < (0 : Int32)))).1) ?_
    refine XS.iloadN X0.here hx rfl (hb hby d44_4) rfl ?_
    refine XS.iloadN X0.here hx rfl (hb hby d44_5) rfl ?_
    refine XS.icmpNo X0.here hx rfl (hb hby d44_6) rfl (flt ((by decide) : ¬ ((2 : Int32) < (0 : Int32)))).2.2.1 ?_
    refine XS.iloadN X0.here hx rfl (hb hby d44_9) rfl ?_
    refine XS.iloadN X0.here hx rfl (hb hby d44_10) rfl ?_
    refine XS.icmpYes X0.here hx rfl (pc0 := 11) (pc' := 22) rfl (hb hby d44_11) rfl (flt ((by decide) : ¬ ((2 : Int32) < (2 : Int32)))).2.2.2 (by decide) (by decide) ?_
    refine XS.iloadN X0.here hx rfl (hb hby d44_22) rfl ?_
    exact retI X0 hx Bd.returns (hb hby d44_23) hr
  · show Qrm44 Z  h0 n0 _ s₁.heap _
    rw [e0]
    exact ⟨rfl, N0, rfl⟩
theorem pd_37 : parseMethodDescriptor "(IIILjava/util/function/BiFunction;)I" = some ⟨[.int, .int, .int, (.object "java/util/function/BiFunction")], some .int⟩ := by decide +kernel
theorem d43_9 : decode jdk_42_method_158_code 9 = .ok (.pop, 1) := by decide +kernel
theorem d43_10 : decode jdk_42_method_158_code 10 = .ok (.return_, 1) := by decide +kernel
theorem ef_44_IIIR (m : MethodId) (x0 : Int32) (x1 : Int32) (x2 : Int32) (x3 : Addr) : entryFrame m #[(.int x0), (.int x1), (.int x2), (.ref x3)] 4 = mkF m 0 #[vi x0, vi x1, vi x2, vr x3] [] := by first | (simp [entryFrame, mkF, argsToLocals, Value.category]; done) | rfl
def Qrm44_1 (Z : State) (a1 : Addr) (h0 : Heap) (n0 : Nat) (v : Option Value) (h : Heap) (L : List Loc) : Prop := v = some (.int 0) ∧ Fr n0 L ∧ h = h0
set_option maxRecDepth 65536 in
set_option maxHeartbeats 40000000 in
theorem rm44_1 (l : Launch) (Z : State) (a0 : Array Value) (hw : ∀ d ∈ tables_1, d.before a0 Z = true) (ws : List Jvm.Cond) (a1 : Addr) (h0 : Heap) (n0 : Nat) (O0 : Old Z n0 h0) :
    MF l Z h0 (⟨"jdk/internal/util/Preconditions", "checkFromToIndex", "(IIILjava/util/function/BiFunction;)I"⟩ : MethodName) jdk_41_method_12_code 4 (some .int) ws (⟨0, 0, 0, 0⟩ : Room) #[(.int 0), (.int 2), (.int 2), (.ref a1)] (Qrm44_1 Z a1 h0 n0) := by
  refine MetFree.of_bodySF (plainFor_of_name pn_24) hisR ?_
  intro p e s m args below meth c s₁ Bd hml0 hP hK
  obtain ⟨rfl, hZ, hh⟩ := hP
  have hx := Bd.exec
  have hby := Bd.bytes
  have X0 : Stand p l e (⟨0, 0, 0, 0⟩ : Room) s m #[(.int 0), (.int 2), (.int 2), (.ref a1)] below meth c s₁ [] 0 0 := Stand.of_body Bd
  have e0 : s₁.heap = h0 := by rw [← hh, Bd.state]; rfl
  have N0 := Fr.nil n0
  have pre0 : ∀ t, Steps p.tables e below (s₁.setTop (mkF m 0 #[vi 0, vi 2, vi 2, vr a1] [])) t → Steps p.tables e below (s₁.setTop (entryFrame m #[(.int 0), (.int 2), (.int 2), (.ref a1)] 4)) t := fun t k => castTop (ef_44_IIIR m (0 : Int32) (2 : Int32) (2 : Int32) a1) k
  obtain ⟨fs, hr, hrun, hended, hW, hsame⟩ := X0.leave (v := some (.int 0)) (fun h => by rw [Bd.returns] at h; cases h)
  refine ⟨_, _, pre0 _ ?_, hrun, hended, _, _, rfl, ?_, ⟨_, rfl⟩, hW, hsame.mono (by decide) (by decide)⟩
  · show Steps p.tables e below (s₁.setTop (mkF m 0 #[vi 0, vi 2, vi 2, vr a1] [])) _
    refine XS.iloadN X0.here hx rfl (hb hby d44_0) rfl ?_
    refine XS.ifNo X0.here hx rfl (hb hby d44_1) rfl ((if0 _ _).trans (flt ((by decide) : ¬ ((0 : Int32) < (0 : Int32)))).1) ?_
    refine XS.iloadN X0.here hx rfl (hb hby d44_4) rfl ?_
    refine XS.iloadN X0.here hx rfl (hb hby d44_5) rfl ?_
    refine XS.icmpNo X0.here hx rfl (hb hby d44_6) rfl (flt ((by decide) : ¬ ((2 : Int32) < (0 : Int32)))).2.2.1 ?_
    refine XS.iloadN X0.here hx rfl (hb hby d44_9) rfl ?_
    refine XS.iloadN X0.here hx rfl (hb hby d44_10) rfl ?_
    refine XS.icmpYes X0.here hx rfl (pc0 := 11) (pc' := 22) rfl (hb hby d44_11) rfl (flt ((by decide) : ¬ ((2 : Int32) < (2 : Int32)))).2.2.2 (by decide) (by decide) ?_
    refine XS.iloadN X0.here hx rfl (hb hby d44_22) rfl ?_
    exact retI X0 hx Bd.returns (hb hby d44_23) hr
  · show Qrm44_1 Z a1 h0 n0 _ s₁.heap _
    rw [e0]
    exact ⟨rfl, N0, rfl⟩
theorem ef_43_III (m : MethodId) (x0 : Int32) (x1 : Int32) (x2 : Int32) : entryFrame m #[(.int x0), (.int x1), (.int x2)] 3 = mkF m 0 #[vi x0, vi x1, vi x2] [] := by first | (simp [entryFrame, mkF, argsToLocals, Value.category]; done) | rfl
def Qrm43 (Z : State)  (h0 : Heap) (n0 : Nat) (v : Option Value) (h : Heap) (L : List Loc) : Prop := v = none ∧ Fr n0 L ∧ h = h0
set_option maxRecDepth 65536 in
set_option maxHeartbeats 40000000 in
theorem rm43 (l : Launch) (Z : State) (a0 : Array Value) (hw : ∀ d ∈ tables_1, d.before a0 Z = true) (ws : List Jvm.Cond)  (h0 : Heap) (n0 : Nat) (O0 : Old Z n0 h0) (T_1 : own_SF Z) :
    MF l Z h0 (⟨"java/lang/String", "checkBoundsBeginEnd", "(III)V"⟩ : MethodName) jdk_42_method_158_code 3 none ws (⟨1, 0, 0, 15⟩ : Room) #[(.int 0), (.int 2), (.int 2)] (Qrm43 Z  h0 n0) := by
  refine MetFree.of_bodySF (plainFor_of_name pn_4) hisR ?_
  intro p e s m args below meth c s₁ Bd hml0 hP hK
  obtain ⟨rfl, hZ, hh⟩ := hP
  have hx := Bd.exec
  have hby := Bd.bytes
  have hml : c.maxLocals = 3 := hml0
  have hown : s.vm.findClass "java/lang/String" = some m.cls := findClass_of_methodNamed Bd.named
  have X0 : Stand p l e (⟨1, 0, 0, 15⟩ : Room) s m #[(.int 0), (.int 2), (.int 2)] below meth c s₁ [] 0 0 := Stand.of_body Bd
  have e0 : s₁.heap = h0 := by rw [← hh, Bd.state]; rfl
  have N0 := Fr.nil n0
  have pre0 : ∀ t, Steps p.tables e below (s₁.setTop (mkF m 0 #[vi 0, vi 2, vi 2] [])) t → Steps p.tables e below (s₁.setTop (entryFrame m #[(.int 0), (.int 2), (.int 2)] 3)) t := fun t k => castTop (ef_43_III m (0 : Int32) (2 : Int32) (2 : Int32)) k
  obtain ⟨vF, S_F, hF⟩ := T_1
  have pre2 : ∀ t, Steps p.tables e below (s₁.setTop (mkF m 3 #[vi 0, vi 2, vi 2] [(.int 2), (.int 2), (.int 0)])) t → Steps p.tables e below (s₁.setTop (entryFrame m #[(.int 0), (.int 2), (.int 2)] 3)) t := fun t kt => pre0 t (by
    show Steps p.tables e below (s₁.setTop (mkF m 0 #[vi 0, vi 2, vi 2] [])) _
    refine XS.iloadN X0.here hx rfl (hb hby d43_0) rfl ?_
    refine XS.iloadN X0.here hx rfl (hb hby d43_1) rfl ?_
    refine XS.iloadN X0.here hx rfl (hb hby d43_2) rfl ?_
    exact kt)
  rcases hF with rfl | ⟨aF, rfl⟩
  · obtain ⟨T3, X3, e3, st3⟩ := getS2 X0 hx hZ hown (host := "") (Or.inl (W hw 233 rfl)) Via.refl e0 (S_F.ext O0.2) (g := (mkF m 3 #[vi 0, vi 2, vi 2] [(.int 2), (.int 2), (.int 0)])) rfl (hb hby d43_3)
    obtain ⟨_, T4, L4, X4, hQ4, st4⟩ := cS X3 hx hZ hown (W hw 234 rfl) (W hw 235 rfl) (W hw 138 rfl) (W hw 236 rfl) (by decide) (rm44 l Z a0 hw []  h0 n0 O0 ) e3 #[vi 0, vi 2, vi 2] [] (by rw [hml]; rfl) (hb hby d43_6) pd_37 rfl (W := 0) (Nat.le_of_eq rfl) (by decide) (by decide) (by decide) (by decide)
    obtain ⟨rfl, Nq4, e4⟩ := hQ4
    have N4 := Fr.app N0 Nq4
    obtain ⟨fs, hr, hrun, hended, hW, hsame⟩ := X4.leave (v := none) (fun _ => rfl)
    refine ⟨_, _, pre2 _ ?_, hrun, hended, _, _, rfl, ?_, ⟨_, rfl⟩, hW, hsame.mono (by decide) (by decide)⟩
    · show Steps p.tables e below (s₁.setTop (mkF m 3 #[vi 0, vi 2, vi 2] [(.int 2), (.int 2), (.int 0)])) _
      refine st3 _ ?_
      refine st4 _ ?_
      refine XS.pop X4.here hx rfl (hb hby d43_9) rfl rfl ?_
      exact X4.returnOut hx Bd.returns (hb hby d43_10) hr
    · show Qrm43 Z  h0 n0 _ T4.heap _
      rw [e4]
      exact ⟨rfl, N4, rfl⟩
  · obtain ⟨T5, X5, e5, st5⟩ := getS2 X0 hx hZ hown (host := "") (Or.inl (W hw 233 rfl)) Via.refl e0 (S_F.ext O0.2) (g := (mkF m 3 #[vi 0, vi 2, vi 2] [(.int 2), (.int 2), (.int 0)])) rfl (hb hby d43_3)
    obtain ⟨_, T6, L6, X6, hQ6, st6⟩ := cS X5 hx hZ hown (W hw 234 rfl) (W hw 235 rfl) (W hw 138 rfl) (W hw 236 rfl) (by decide) (rm44_1 l Z a0 hw [] aF h0 n0 O0 ) e5 #[vi 0, vi 2, vi 2] [] (by rw [hml]; rfl) (hb hby d43_6) pd_37 rfl (W := 0) (Nat.le_of_eq rfl) (by decide) (by decide) (by decide) (by decide)
    obtain ⟨rfl, Nq6, e6⟩ := hQ6
    have N6 := Fr.app N0 Nq6
    obtain ⟨fs, hr, hrun, hended, hW, hsame⟩ := X6.leave (v := none) (fun _ => rfl)
    refine ⟨_, _, pre2 _ ?_, hrun, hended, _, _, rfl, ?_, ⟨_, rfl⟩, hW, hsame.mono (by decide) (by decide)⟩
    · show Steps p.tables e below (s₁.setTop (mkF m 3 #[vi 0, vi 2, vi 2] [(.int 2), (.int 2), (.int 0)])) _
      refine st5 _ ?_
      refine st6 _ ?_
      refine XS.pop X6.here hx rfl (hb hby d43_9) rfl rfl ?_
      exact X6.returnOut hx Bd.returns (hb hby d43_10) hr
    · show Qrm43 Z  h0 n0 _ T6.heap _
      rw [e6]
      exact ⟨rfl, N6, rfl⟩
theorem pd_38 : parseMethodDescriptor "(III)V" = some ⟨[.int, .int, .int], none⟩ := by decide +kernel
theorem d42_11 : decode jdk_42_method_92_code 11 = .ok (.iload_n 1, 1) := by decide +kernel
theorem d42_12 : decode jdk_42_method_92_code 12 = .ok (.ifCond .ne 10, 3) := by decide +kernel
theorem d42_15 : decode jdk_42_method_92_code 15 = .ok (.iload_n 2, 1) := by decide +kernel
theorem d42_16 : decode jdk_42_method_92_code 16 = .ok (.iload_n 3, 1) := by decide +kernel
theorem d42_17 : decode jdk_42_method_92_code 17 = .ok (.if_icmp .ne 5, 3) := by decide +kernel
theorem d42_20 : decode jdk_42_method_92_code 20 = .ok (.aload_n 0, 1) := by decide +kernel
theorem d42_21 : decode jdk_42_method_92_code 21 = .ok (.areturn, 1) := by decide +kernel
theorem ef_42_RII (m : MethodId) (x0 : Addr) (x1 : Int32) (x2 : Int32) : entryFrame m #[(.ref x0), (.int x1), (.int x2)] 5 = mkF m 0 #[vr x0, vi x1, vi x2, .unset, .unset] [] := by first | (simp [entryFrame, mkF, argsToLocals, Value.category]; done) | rfl
def Qrm42 (Z : State) (a1 : Addr) (a3 : Addr) (k5 : ClassId) (p6 : Int32) (p7 : Int32) (p9 : Int32) (h0 : Heap) (n0 : Nat) (v : Option Value) (h : Heap) (L : List Loc) : Prop := v = some (.ref a1) ∧ Fr n0 L ∧ h = h0
set_option maxRecDepth 65536 in
set_option maxHeartbeats 40000000 in
theorem rm42 (l : Launch) (Z : State) (a0 : Array Value) (hw : ∀ d ∈ tables_1, d.before a0 Z = true) (ws : List Jvm.Cond) (a1 : Addr) (a3 : Addr) (k5 : ClassId) (p6 : Int32) (p7 : Int32) (p9 : Int32) (h0 : Heap) (n0 : Nat) (O0 : Old Z n0 h0) (E_2 : Exa Z h0 a1 "java/lang/String") (F_4 : Fld Z h0 a1 "java/lang/String" "value" "[B" (.ref a3)) (V_8 : Arv Z h0 a3 k5 .byte (2 : Int32) [(.int p6), (.int p7)] (.int 0)) (S_10 : Sta Z Z.heap "java/lang/String" "COMPACT_STRINGS" "Z" (.int p9)) (hc11 : ¬ (p9 = (0 : Int32))) (F_12 : Fld Z h0 a1 "java/lang/String" "coder" "B" (.int 0)) (T_14 : own_SF Z) :
    MF l Z h0 (⟨"java/lang/String", "substring", "(II)Ljava/lang/String;"⟩ : MethodName) jdk_42_method_92_code 5 (some (.object "java/lang/String")) ws (⟨2, 0, 0, 29⟩ : Room) #[(.ref a1), (.int 0), (.int 2)] (Qrm42 Z a1 a3 k5 p6 p7 p9 h0 n0) := by
  refine MetFree.of_bodySF (plainFor_of_name pn_4) hisR ?_
  intro p e s m args below meth c s₁ Bd hml0 hP hK
  obtain ⟨rfl, hZ, hh⟩ := hP
  have hx := Bd.exec
  have hby := Bd.bytes
  have hml : c.maxLocals = 5 := hml0
  have hown : s.vm.findClass "java/lang/String" = some m.cls := findClass_of_methodNamed Bd.named
  have X0 : Stand p l e (⟨2, 0, 0, 29⟩ : Room) s m #[(.ref a1), (.int 0), (.int 2)] below meth c s₁ [] 0 0 := Stand.of_body Bd
  have e0 : s₁.heap = h0 := by rw [← hh, Bd.state]; rfl
  have N0 := Fr.nil n0
  have pre0 : ∀ t, Steps p.tables e below (s₁.setTop (mkF m 0 #[vr a1, vi 0, vi 2, .unset, .unset] [])) t → Steps p.tables e below (s₁.setTop (entryFrame m #[(.ref a1), (.int 0), (.int 2)] 5)) t := fun t k => castTop (ef_42_RII m a1 (0 : Int32) (2 : Int32)) k
  obtain ⟨_, T13, L13, X13, hQ13, st13⟩ := cV X0 hx hZ hown (W hw 168 rfl) (W hw 169 rfl) (notFace_of_selects (args := #[]) (mvT hZ (W hw 171 rfl))) (W hw 171 rfl) (W hw 170 rfl) (W hw 172 rfl) (W hw 2 rfl) (by decide) (rm30 l Z a0 hw [] a1 a3 k5 p6 p7 p9 h0 n0 O0 F_4 V_8 E_2 S_10 hc11 F_12) e0 E_2 #[vr a1, vi 0, vi 2, .unset, .unset] [] (by rw [hml]; rfl) (hb hby d42_1) pd_23 rfl (W := 0) (Nat.le_of_eq rfl) (by decide) (by decide) (by decide) (by decide)
  obtain ⟨rfl, Nq13, e13⟩ := hQ13
  have N13 := Fr.app N0 Nq13
  obtain ⟨_, T15, L15, X15, hQ15, st15⟩ := cS X13 hx hZ hown (W hw 230 rfl) (W hw 231 rfl) (W hw 2 rfl) (W hw 232 rfl) (by decide) (rm43 l Z a0 hw []  h0 n0 O0 T_14) e13 #[vr a1, vi 0, vi 2, vi 2, .unset] [] (by rw [hml]; rfl) (hb hby d42_8) pd_38 rfl (W := 0) (Nat.le_of_eq rfl) (by decide) (by decide) (by decide) (by decide)
  obtain ⟨rfl, Nq15, e15⟩ := hQ15
  have N15 := Fr.app N13 Nq15
  obtain ⟨fs, hr, hrun, hended, hW, hsame⟩ := X15.leave (v := some (.ref a1)) (fun h => by rw [Bd.returns] at h; cases h)
  refine ⟨_, _, pre0 _ ?_, hrun, hended, _, _, rfl, ?_, ⟨_, rfl⟩, hW, hsame.mono (by decide) (by decide)⟩
  · show Steps p.tables e below (s₁.setTop (mkF m 0 #[vr a1, vi 0, vi 2, .unset, .unset] [])) _
    refine XS.aloadN X0.here hx rfl (hb hby d42_0) rfl rfl ?_
    refine st13 _ ?_
    refine XS.istoreN X13.here hx rfl (hb hby d42_4) rfl (l' := #[vr a1, vi 0, vi 2, vi 2, .unset]) rfl ?_
    refine XS.iloadN X13.here hx rfl (hb hby d42_5) rfl ?_
    refine XS.iloadN X13.here hx rfl (hb hby d42_6) rfl ?_
    refine XS.iloadN X13.here hx rfl (hb hby d42_7) rfl ?_
    refine st15 _ ?_
    refine XS.iloadN X15.here hx rfl (hb hby d42_11) rfl ?_
    refine XS.ifNo X15.here hx rfl (hb hby d42_12) rfl ((if0 _ _).trans (teq ((by decide) : (0 : Int32) = (0 : Int32))).2) ?_
    refine XS.iloadN X15.here hx rfl (hb hby d42_15) rfl ?_
    show Steps p.tables e below (T15.setTop (mkF m 16 #[vr a1, vi 0, vi 2, vi 2, .unset] [(.int 2)])) _
    refine XS.iloadN X15.here hx rfl (hb hby d42_16) rfl ?_
    refine XS.icmpNo X15.here hx rfl (hb hby d42_17) rfl (teq ((by decide) : (2 : Int32) = (2 : Int32))).2 ?_
    refine XS.aloadN X15.here hx rfl (hb hby d42_20) rfl rfl ?_
    jvm_step X15.here [X15.here.top, hx, (hb hby d42_21), X15.method', Bd.returns, Value.isRef, FieldType.isReference]
    first | (intro acts; rw [hr _ acts rfl rfl rfl]) | rw [hr _ _ rfl rfl rfl]
    exact Steps.refl _
  · show Qrm42 Z a1 a3 k5 p6 p7 p9 h0 n0 _ T15.heap _
    rw [e15]
    exact ⟨rfl, N15, rfl⟩
theorem pd_39 : parseMethodDescriptor "(II)Ljava/lang/String;" = some ⟨[.int, .int], some (.object "java/lang/String")⟩ := by decide +kernel
theorem d20_149 : decode prog_1_method_2_code 149 = .ok (.putfield 49, 3) := by decide +kernel
theorem d20_152 : decode prog_1_method_2_code 152 = .ok (.aload_n 0, 1) := by decide +kernel
theorem d20_153 : decode prog_1_method_2_code 153 = .ok (.aload_n 1, 1) := by decide +kernel
theorem d20_154 : decode prog_1_method_2_code 154 = .ok (.invokevirtual 59, 3) := by decide +kernel
theorem d20_157 : decode prog_1_method_2_code 157 = .ok (.iconst 2, 1) := by decide +kernel
theorem d20_158 : decode prog_1_method_2_code 158 = .ok (.if_icmp .le 11, 3) := by decide +kernel
theorem d20_169 : decode prog_1_method_2_code 169 = .ok (.aconst_null, 1) := by decide +kernel
theorem d20_170 : decode prog_1_method_2_code 170 = .ok (.putfield 56, 3) := by decide +kernel
theorem d20_173 : decode prog_1_method_2_code 173 = .ok (.aload_n 0, 1) := by decide +kernel
theorem d20_174 : decode prog_1_method_2_code 174 = .ok (.getfield 49, 3) := by decide +kernel
theorem d20_177 : decode prog_1_method_2_code 177 = .ok (.areturn, 1) := by decide +kernel
def Qrm20_1 (Z : State) (a1 : Addr) (a4 : Addr) (a12 : Addr) (k14 : ClassId) (a15 : Addr) (p21 : Int32) (a25 : Addr) (k27 : ClassId) (p28 : Int32) (p29 : Int32) (h0 : Heap) (n0 : Nat) (v : Option Value) (h : Heap) (L : List Loc) : Prop := v = some (.ref a15) ∧ Fr n0 L ∧ Keep h0 h [a1] ∧ Fld Z h a1 "com/example/runqueue/runqueue/Arguments" "next" "I" (.int 1) ∧ Fld Z h a1 "com/example/runqueue/runqueue/Arguments" "args" "Ljava/util/List;" (.ref a4) ∧ Exa Z h a1 "com/example/runqueue/runqueue/Arguments" ∧ Fld Z h a1 "com/example/runqueue/runqueue/Arguments" "option" "Ljava/lang/String;" (.ref a15) ∧ Fld Z h a1 "com/example/runqueue/runqueue/Arguments" "attached" "Ljava/lang/String;" .null
set_option maxRecDepth 65536 in
set_option maxHeartbeats 40000000 in
theorem rm20_1 (l : Launch) (Z : State) (a0 : Array Value) (hw : ∀ d ∈ tables_1, d.before a0 Z = true) (ws : List Jvm.Cond) (a1 : Addr) (a4 : Addr) (a12 : Addr) (k14 : ClassId) (a15 : Addr) (p21 : Int32) (a25 : Addr) (k27 : ClassId) (p28 : Int32) (p29 : Int32) (h0 : Heap) (n0 : Nat) (O0 : Old Z n0 h0) (F_2 : Fld Z h0 a1 "com/example/runqueue/runqueue/Arguments" "next" "I" (.int 0)) (F_5 : Fld Z h0 a1 "com/example/runqueue/runqueue/Arguments" "args" "Ljava/util/List;" (.ref a4)) (E_7 : Exa Z h0 a4 "java/util/ArrayList") (F_8 : Fld Z h0 a4 "java/util/ArrayList" "size" "I" (.int 1)) (F_13 : Fld Z h0 a4 "java/util/ArrayList" "elementData" "[Ljava/lang/Object;" (.ref a12)) (V_16 : Arv Z h0 a12 k14 (.object "java/lang/Object") (10 : Int32) [(.ref a15)] .null) (E_18 : Exa Z h0 a15 "java/lang/String") (g_a15 : n0 ≤ a15) (S_22 : Sta Z Z.heap "java/lang/String" "COMPACT_STRINGS" "Z" (.int p21)) (hc23 : ¬ (p21 = (0 : Int32))) (F_24 : Fld Z h0 a15 "java/lang/String" "coder" "B" (.int 0)) (F_26 : Fld Z h0 a15 "java/lang/String" "value" "[B" (.ref a25)) (V_30 : Arv Z h0 a25 k27 .byte (2 : Int32) [(.int p28), (.int p29)] (.int 0)) (hc31 : p28 = (45 : Int32)) (hc32 : ¬ (p29 = (45 : Int32))) (E_52 : Exa Z h0 a1 "com/example/runqueue/runqueue/Arguments") (g_a1 : n0 ≤ a1) (F_55 : Fld Z h0 a1 "com/example/runqueue/runqueue/Arguments" "option" "Ljava/lang/String;" .null) (F_56 : Fld Z h0 a1 "com/example/runqueue/runqueue/Arguments" "attached" "Ljava/lang/String;" .null) (ne_a15_a1 : a15 ≠ a1) (ne_a25_a1 : a25 ≠ a1) (T_63 : own_SF Z) :
    MetFree l (⟨"com/example/runqueue/runqueue/Arguments", "nextOption", "()Ljava/lang/String;"⟩ : MethodName) (head1 (Jvm.Cond.code (⟨"com/example/runqueue/runqueue/Arguments", "nextOption", "()Ljava/lang/String;"⟩ : MethodName) prog_1_method_2_code 3 (some (.object "java/lang/String")) :: ws) (⟨4, 8, 40, 59⟩ : Room)) (fun a U => a = #[(.ref a1)] ∧ Z.Warmed39 U.vm ∧ U.heap = h0 ∧ own_CH Z own_EL n0 U.vm h0) (fun _ _ _ _ _ => True) (fun _ U o U' => ∃ v L, o = .returned v ∧ Qrm20_1 Z a1 a4 a12 k14 a15 p21 a25 k27 p28 p29 h0 n0 v U'.heap L ∧ ReturnedEndW U o U' L (⟨4, 8, 40, 59⟩ : Room).cells (⟨4, 8, 40, 59⟩ : Room).slots) := by
  refine MetFree.of_bodySF (plainFor_of_name pn_21) hisR ?_
  intro p e s m args below meth c s₁ Bd hml0 hP hK
  obtain ⟨rfl, hZ, hh, hCH⟩ := hP
  have hx := Bd.exec
  have hby := Bd.bytes
  have hml : c.maxLocals = 3 := hml0
  have hown : s.vm.findClass "com/example/runqueue/runqueue/Arguments" = some m.cls := findClass_of_methodNamed Bd.named
  have X0 : Stand p l e (⟨4, 8, 40, 59⟩ : Room) s m #[(.ref a1)] below meth c s₁ [] 0 0 := Stand.of_body Bd
  have e0 : s₁.heap = h0 := by rw [← hh, Bd.state]; rfl
  have N0 := Fr.nil n0
  have pre0 : ∀ t, Steps p.tables e below (s₁.setTop (mkF m 0 #[vr a1, .unset, .unset] [])) t → Steps p.tables e below (s₁.setTop (entryFrame m #[(.ref a1)] 3)) t := fun t k => castTop (ef_20_R m a1) k
  have CS0 : own_CS Z own_EL n0 h0.size s.vm h0 := own_CS.start hCH
  have hS0 : s.Since s.vm 0 := (State.WarmedH.refl s).since 0
  obtain ⟨T3, X3, e3, st3⟩ := getF X0 hx hZ hown (host := "") (Or.inl (W hw 113 rfl)) Via.refl e0 F_2 (g := (mkF m 1 #[vr a1, .unset, .unset] [(.ref a1)])) rfl rfl (hb hby d20_1)
  obtain ⟨T6, X6, e6, st6⟩ := getF X3 hx hZ hown (host := "") (Or.inl (W hw 106 rfl)) Via.refl e3 F_5 (g := (mkF m 5 #[vr a1, .unset, .unset] [(.ref a1), (.int 0)])) rfl rfl (hb hby d20_5)
  obtain ⟨_, T9, L9, X9, hQ9, st9⟩ := cF X6 hx hZ hown (W hw 115 rfl) (W hw 116 rfl) (mvT hZ (W hw 117 rfl)) (W hw 118 rfl) (W hw 119 rfl) (W hw 120 rfl) (W hw 121 rfl) (W hw 122 rfl) (W hw 123 rfl) (W hw 46 rfl) (by decide) (rm21 l Z a0 hw [] a4 h0 n0 O0 F_8) e6 E_7 #[vr a1, .unset, .unset] [(.int 0)] (by rw [hml]; rfl) (hb hby d20_8) pd_23 rfl (W := 1) (Nat.le_of_eq rfl) (by decide) (by decide) (by decide) (by decide)
  obtain ⟨rfl, Nq9, e9⟩ := hQ9
  have N9 := Fr.app N0 Nq9
  obtain ⟨T10, X10, e10, st10⟩ := getF X9 hx hZ hown (host := "") (Or.inl (W hw 106 rfl)) Via.refl e9 F_5 (g := (mkF m 19 #[vr a1, .unset, .unset] [(.ref a1)])) rfl rfl (hb hby d20_19)
  obtain ⟨T11, X11, e11, st11⟩ := getF X10 hx hZ hown (host := "") (Or.inl (W hw 113 rfl)) Via.refl e10 F_2 (g := (mkF m 23 #[vr a1, .unset, .unset] [(.ref a1), (.ref a4)])) rfl rfl (hb hby d20_23)
  obtain ⟨_, T17, L17, X17, hQ17, st17⟩ := cF X11 hx hZ hown (W hw 124 rfl) (W hw 125 rfl) (mvT hZ (W hw 126 rfl)) (W hw 127 rfl) (W hw 128 rfl) (W hw 129 rfl) (W hw 130 rfl) (W hw 122 rfl) (W hw 131 rfl) (W hw 46 rfl) (by decide) (rm22 l Z a0 hw [] a4 a12 k14 a15 h0 n0 O0 F_8 E_7 F_13 V_16) e11 E_7 #[vr a1, .unset, .unset] [] (by rw [hml]; rfl) (hb hby d20_26) pd_27 rfl (W := 0) (Nat.le_of_eq rfl) (by decide) (by decide) (by decide) (by decide)
  obtain ⟨rfl, Nq17, e17⟩ := hQ17
  have N17 := Fr.app N9 Nq17
  obtain ⟨T19, X19, e19, st19⟩ := castY X17 hx hZ hown (W hw 145 rfl) e17 (Ins.self E_18) (g := (mkF m 31 #[vr a1, .unset, .unset] [(.ref a15)])) rfl rfl (hb hby d20_31)
  obtain ⟨b20, T20, h20, k20, bb20, kk20, X20, e20, E20, hS20, hk20, hZ20, hown20, La20, Lc20, Lv20, Lb20, -, -, hC20, -, hne20, st20⟩ := ldcCH (s := s) (vm0 := s.vm) X19 hx hZ hown (W hw 146 rfl) (own_wS hw) e19 hS0 (Nat.zero_le _) (own_EW hw) (List.mem_of_getElem? (i := 0) rfl) CS0.1 (vs := [(.int 45), (.int 45)]) (z := (2 : Int32)) own_lt0 (by decide) (by decide) (g := (mkF m 36 #[vr a1, vr a15, .unset] [(.ref a15)])) rfl (hb hby d20_36) (n := 8) (by decide) (by decide) (by decide) (by decide)
  have CS20 := CS0.ldc hC20 (Keep.refl h0 [a1]).1
  have K20 := (Keep.refl h0 [a1]).ext E20
  have O20 := O0.ext E20
  have f33 := (F_24.ext E20)
  have f34 := (F_26.ext E20)
  have f35 := (V_30.ext E20)
  have f37 := (E_18.ext E20)
  obtain ⟨_, T36, L36, X36, hQ36, st36⟩ := cV X20 hx hZ20 hown20 (W hw 149 rfl) (W hw 150 rfl) (notFace_of_selects (args := #[]) (mvT hZ20 (W hw 152 rfl))) (W hw 152 rfl) (W hw 151 rfl) (W hw 153 rfl) (W hw 2 rfl) (by decide) (rm26_1 l Z a0 hw [] a15 b20 p21 a25 bb20 k27 p28 p29 kk20 h20 n0 O20 (hne20 a15 (CS20.2 a15 g_a15 E_18.lt)).1 La20 S_22 hc23 f33 Lc20 f34 Lv20 f35 Lb20 hc31 hc32) e20 f37 #[vr a1, vr a15, .unset] [] (by rw [hml]; rfl) (hb hby d20_38) pd_20 rfl (W := 0) (Nat.le_of_eq rfl) (by decide) (by decide) (by decide) (by decide)
  obtain ⟨rfl, Nq36, e36⟩ := hQ36
  have N36 := Fr.app N17 Nq36
  obtain ⟨b38, T38, h38, k38, bb38, kk38, X38, e38, E38, hS38, hk38, hZ38, hown38, La38, Lc38, Lv38, Lb38, -, -, hC38, -, hne38, st38⟩ := ldcCH (s := s) (vm0 := T20.vm) X36 hx hZ20 hown20 (W hw 157 rfl) (own_wS hw) e36 hS20 hk20 (own_EW hw) (List.mem_of_getElem? (i := 1) rfl) CS20.1 (vs := [(.int 45)]) (z := (1 : Int32)) own_lt1 (by decide) (by decide) (g := (mkF m 57 #[vr a1, vr a15, .unset] [(.ref a15)])) rfl (hb hby d20_57) (n := 4) (by decide) (by decide) (by decide) (by decide)
  have CS38 := CS20.ldc hC38 K20.1
  have K38 := K20.ext E38
  have O38 := O20.ext E38
  have f39 := (f37.ext E38)
  have f40 := (f34.ext E38)
  have f41 := (f35.ext E38)
  have f42 := (f33.ext E38)
  obtain ⟨_, T43, L43, X43, hQ43, st43⟩ := cV X38 hx hZ38 hown38 (W hw 158 rfl) (W hw 159 rfl) (notFace_of_selects (args := #[]) (mvT hZ38 (W hw 161 rfl))) (W hw 161 rfl) (W hw 160 rfl) (W hw 162 rfl) (W hw 2 rfl) (by decide) (rm28 l Z a0 hw [] a15 b38 a25 k27 p28 p29 p21 bb38 kk38 h38 n0 O38 f39 f40 f41 S_22 hc23 f42 La38 Lv38 Lb38 Lc38 hc31) e38 f39 #[vr a1, vr a15, .unset] [] (by rw [hml]; rfl) (hb hby d20_59) pd_36 rfl (W := 0) (Nat.le_of_eq rfl) (by decide) (by decide) (by decide) (by decide)
  obtain ⟨rfl, Nq43, e43⟩ := hQ43
  have N43 := Fr.app N36 Nq43
  obtain ⟨b44, T44, h44, k44, bb44, kk44, X44, e44, E44, hS44, hk44, hZ44, hown44, La44, Lc44, Lv44, Lb44, -, -, hC44, -, hne44, st44⟩ := ldcCH (s := s) (vm0 := T38.vm) X43 hx hZ38 hown38 (W hw 157 rfl) (own_wS hw) e43 hS38 hk38 (own_EW hw) (List.mem_of_getElem? (i := 1) rfl) CS38.1 (vs := [(.int 45)]) (z := (1 : Int32)) own_lt1 (by decide) (by decide) (g := (mkF m 66 #[vr a1, vr a15, .unset] [(.ref a15)])) rfl (hb hby d20_66) (n := 4) (by decide) (by decide) (by decide) (by decide)
  have CS44 := CS38.ldc hC44 K38.1
  have K44 := K38.ext E44
  have O44 := O38.ext E44
  have f45 := (f42.ext E44)
  have f46 := (f40.ext E44)
  have f47 := (f41.ext E44)
  have f49 := (f39.ext E44)
  obtain ⟨_, T48, L48, X48, hQ48, st48⟩ := cV X44 hx hZ44 hown44 (W hw 149 rfl) (W hw 150 rfl) (notFace_of_selects (args := #[]) (mvT hZ44 (W hw 152 rfl))) (W hw 152 rfl) (W hw 151 rfl) (W hw 153 rfl) (W hw 2 rfl) (by decide) (rm26_2 l Z a0 hw [] a15 b44 p21 a25 bb44 k27 p28 p29 kk44 h44 n0 O44 (hne44 a15 (CS44.2 a15 g_a15 E_18.lt)).1 La44 S_22 hc23 f45 Lc44 f46 Lv44 f47 Lb44) e44 f49 #[vr a1, vr a15, .unset] [] (by rw [hml]; rfl) (hb hby d20_68) pd_20 rfl (W := 0) (Nat.le_of_eq rfl) (by decide) (by decide) (by decide) (by decide)
  obtain ⟨rfl, Nq48, e48⟩ := hQ48
  have N48 := Fr.app N43 Nq48
  have f50 := (((F_2.ext E20).ext E38).ext E44)
  obtain ⟨T51, X51, e51, st51⟩ := getF X48 hx hZ44 hown44 (host := "") (Or.inl (W hw 113 rfl)) Via.refl e48 f50 (g := (mkF m 78 #[vr a1, vr a15, .unset] [(.ref a1), (.ref a1)])) rfl rfl (hb hby d20_78)
  have f53 := (((E_52.ext E20).ext E38).ext E44)
  obtain ⟨T54, h54, X54, e54, W54, st54⟩ := putF X51 hx hZ44 hown44 (host := "") (Or.inl (W hw 113 rfl)) Via.refl e51 f50 f53 (Or.inl (W hw 114 rfl)) (W hw 100 rfl) (ty := .int) (by decide) rfl rfl (g := (mkF m 83 #[vr a1, vr a15, .unset] [(.int 1), (.ref a1)])) rfl rfl (hb hby d20_83)
  have K54 := K44.wr W54 (Or.inl (List.mem_of_getElem? (i := 0) rfl))
  have O54 := O44.wr W54 g_a1
  have N54 := Fr.snoc X54 N48 g_a1
  have CS54 := CS44.wr W54 g_a1 F_2.lt
  have Fw54 := f50.same W54
  obtain ⟨b57, T57, h57, k57, bb57, kk57, X57, e57, E57, hS57, hk57, hZ57, hown57, La57, Lc57, Lv57, Lb57, -, -, hC57, -, hne57, st57⟩ := ldcCH (s := s) (vm0 := T44.vm) X54 hx hZ44 hown44 (W hw 146 rfl) (own_wS hw) e54 hS44 (Nat.le_trans hk44 (Keep.of_wr W54).1) (own_EW hw) (List.mem_of_getElem? (i := 0) rfl) CS54.1 (vs := [(.int 45), (.int 45)]) (z := (2 : Int32)) own_lt0 (by decide) (by decide) (g := (mkF m 87 #[vr a1, vr a15, .unset] [(.ref a15)])) rfl (hb hby d20_87) (n := 8) (by decide) (by decide) (by decide) (by decide)
  have K57 := K54.ext E57
  have O57 := O54.ext E57
  have f58 := ((f49.wr W54).ext E57)
  have f59 := ((f46.other W54 (Or.inl ne_a15_a1)).ext E57)
  have f60 := ((f47.other W54 ne_a25_a1).ext E57)
  have f61 := ((f45.other W54 (Or.inl ne_a15_a1)).ext E57)
  obtain ⟨_, T62, L62, X62, hQ62, st62⟩ := cV X57 hx hZ57 hown57 (W hw 158 rfl) (W hw 159 rfl) (notFace_of_selects (args := #[]) (mvT hZ57 (W hw 161 rfl))) (W hw 161 rfl) (W hw 160 rfl) (W hw 162 rfl) (W hw 2 rfl) (by decide) (rm28_1 l Z a0 hw [] a15 b57 a25 k27 p28 p29 p21 bb57 kk57 h57 n0 O57 f58 f59 f60 S_22 hc23 f61 La57 Lv57 Lb57 Lc57 hc31 hc32) e57 f58 #[vr a1, vr a15, .unset] [] (by rw [hml]; rfl) (hb hby d20_89) pd_36 rfl (W := 0) (Nat.le_of_eq rfl) (by decide) (by decide) (by decide) (by decide)
  obtain ⟨rfl, Nq62, e62⟩ := hQ62
  have N62 := Fr.app N54 Nq62
  obtain ⟨_, T64, L64, X64, hQ64, st64⟩ := cV X62 hx hZ57 hown57 (W hw 225 rfl) (W hw 226 rfl) (notFace_of_selects (args := #[]) (mvT hZ57 (W hw 228 rfl))) (W hw 228 rfl) (W hw 227 rfl) (W hw 229 rfl) (W hw 2 rfl) (by decide) (rm42 l Z a0 hw [] a15 a25 k27 p28 p29 p21 h57 n0 O57 f58 f59 f60 S_22 hc23 f61 T_63) e62 f58 #[vr a1, vr a15, .unset] [(.ref a1)] (by rw [hml]; rfl) (hb hby d20_146) pd_39 rfl (W := 1) (Nat.le_of_eq rfl) (by decide) (by decide) (by decide) (by decide)
  obtain ⟨rfl, Nq64, e64⟩ := hQ64
  have N64 := Fr.app N62 Nq64
  have f65 := (((((F_55.ext E20).ext E38).ext E44).other W54 (Or.inr (slot_ne (Or.inl (W hw 211 rfl)) (Or.inl (W hw 114 rfl)) (by decide) (t := (.object "java/lang/String")) (t' := .int) (by decide) (by decide)))).ext E57)
  have f66 := ((f53.wr W54).ext E57)
  obtain ⟨T67, h67, X67, e67, W67, st67⟩ := putF X64 hx hZ57 hown57 (host := "") (Or.inl (W hw 210 rfl)) Via.refl e64 f65 f66 (Or.inl (W hw 211 rfl)) (W hw 100 rfl) (ty := (.object "java/lang/String")) (by decide) rfl rfl (g := (mkF m 149 #[vr a1, vr a15, .unset] [(.ref a15), (.ref a1)])) rfl rfl (hb hby d20_149)
  have K67 := K57.wr W67 (Or.inl (List.mem_of_getElem? (i := 0) rfl))
  have O67 := O57.wr W67 g_a1
  have N67 := Fr.snoc X67 N64 g_a1
  have Fw67 := f65.same W67
  have f68 := (f59.other W67 (Or.inl ne_a15_a1))
  have f69 := (f60.other W67 ne_a25_a1)
  have f70 := (f58.wr W67)
  have f71 := (f61.other W67 (Or.inl ne_a15_a1))
  obtain ⟨_, T72, L72, X72, hQ72, st72⟩ := cV X67 hx hZ57 hown57 (W hw 237 rfl) (W hw 169 rfl) (notFace_of_selects (args := #[]) (mvT hZ57 (W hw 171 rfl))) (W hw 171 rfl) (W hw 170 rfl) (W hw 172 rfl) (W hw 2 rfl) (by decide) (rm30 l Z a0 hw [] a15 a25 k27 p28 p29 p21 h67 n0 O67 f68 f69 f70 S_22 hc23 f71) e67 f70 #[vr a1, vr a15, .unset] [(.ref a1)] (by rw [hml]; rfl) (hb hby d20_154) pd_23 rfl (W := 1) (Nat.le_of_eq rfl) (by decide) (by decide) (by decide) (by decide)
  obtain ⟨rfl, Nq72, e72⟩ := hQ72
  have N72 := Fr.app N67 Nq72
  have f73 := ((((((F_56.ext E20).ext E38).ext E44).other W54 (Or.inr (slot_ne (Or.inl (W hw 213 rfl)) (Or.inl (W hw 114 rfl)) (by decide) (t := (.object "java/lang/String")) (t' := .int) (by decide) (by decide)))).ext E57).other W67 (Or.inr (slot_ne (Or.inl (W hw 213 rfl)) (Or.inl (W hw 211 rfl)) (by decide) (t := (.object "java/lang/String")) (t' := (.object "java/lang/String")) (by decide) (by decide))))
  have f74 := (f66.wr W67)
  obtain ⟨T75, h75, X75, e75, W75, st75⟩ := putF X72 hx hZ57 hown57 (host := "") (Or.inl (W hw 212 rfl)) Via.refl e72 f73 f74 (Or.inl (W hw 213 rfl)) (W hw 100 rfl) (ty := (.object "java/lang/String")) (by decide) rfl rfl (g := (mkF m 170 #[vr a1, vr a15, .unset] [.null, (.ref a1)])) rfl rfl (hb hby d20_170)
  have K75 := K67.wr W75 (Or.inl (List.mem_of_getElem? (i := 0) rfl))
  have N75 := Fr.snoc X75 N72 g_a1
  have Fw75 := f73.same W75
  have f76 := (Fw67.other W75 (Or.inr (slot_ne (Or.inl (W hw 211 rfl)) (Or.inl (W hw 213 rfl)) (by decide) (t := (.object "java/lang/String")) (t' := (.object "java/lang/String")) (by decide) (by decide))))
  obtain ⟨T77, X77, e77, st77⟩ := getF X75 hx hZ57 hown57 (host := "") (Or.inl (W hw 210 rfl)) Via.refl e75 f76 (g := (mkF m 174 #[vr a1, vr a15, .unset] [(.ref a1)])) rfl rfl (hb hby d20_174)
  have f78 := (((Fw54.ext E57).other W67 (Or.inr (slot_ne (Or.inl (W hw 114 rfl)) (Or.inl (W hw 211 rfl)) (by decide) (t := .int) (t' := (.object "java/lang/String")) (by decide) (by decide)))).other W75 (Or.inr (slot_ne (Or.inl (W hw 114 rfl)) (Or.inl (W hw 213 rfl)) (by decide) (t := .int) (t' := (.object "java/lang/String")) (by decide) (by decide))))
  have f79 := (((((((F_5.ext E20).ext E38).ext E44).other W54 (Or.inr (slot_ne (Or.inr (W hw 107 rfl)) (Or.inl (W hw 114 rfl)) (by decide) (t := (.object "java/util/List")) (t' := .int) (by decide) (by decide)))).ext E57).other W67 (Or.inr (slot_ne (Or.inr (W hw 107 rfl)) (Or.inl (W hw 211 rfl)) (by decide) (t := (.object "java/util/List")) (t' := (.object "java/lang/String")) (by decide) (by decide)))).other W75 (Or.inr (slot_ne (Or.inr (W hw 107 rfl)) (Or.inl (W hw 213 rfl)) (by decide) (t := (.object "java/util/List")) (t' := (.object "java/lang/String")) (by decide) (by decide))))
  have f80 := (f74.wr W75)
  obtain ⟨fs, hr, hrun, hended, hREW⟩ := X77.leaveW (s := s) hS57 (by rw [e77]; exact (Nat.le_trans (Nat.le_trans hk57 (Keep.of_wr W67).1) (Keep.of_wr W75).1)) (v := some (.ref a15)) (fun h => by rw [Bd.returns] at h; cases h)
  refine ⟨_, _, pre0 _ ?_, hrun, hended, _, _, rfl, ?_, hREW.1, hREW.2.1, hREW.2.2.1, hREW.2.2.2.mono (by decide) (by decide)⟩
  · show Steps p.tables e below (s₁.setTop (mkF m 0 #[vr a1, .unset, .unset] [])) _
    refine XS.aloadN X0.here hx rfl (hb hby d20_0) rfl rfl ?_
    refine st3 _ ?_
    refine XS.aloadN X3.here hx rfl (hb hby d20_4) rfl rfl ?_
    refine st6 _ ?_
    refine st9 _ ?_
    refine XS.icmpYes X9.here hx rfl (pc0 := 13) (pc' := 18) rfl (hb hby d20_13) rfl (feq ((by decide) : ¬ ((0 : Int32) = (1 : Int32)))).2 (by decide) (by decide) ?_
    refine XS.aloadN X9.here hx rfl (hb hby d20_18) rfl rfl ?_
    refine st10 _ ?_
    refine XS.aloadN X10.here hx rfl (hb hby d20_22) rfl rfl ?_
    refine st11 _ ?_
    show Steps p.tables e below (T11.setTop (mkF m 26 #[vr a1, .unset, .unset] [(.int 0), (.ref a4)])) _
    refine st17 _ ?_
    refine st19 _ ?_
    refine XS.astoreN X19.here hx rfl (hb hby d20_34) rfl rfl (l' := #[vr a1, vr a15, .unset]) rfl ?_
    refine XS.aloadN X19.here hx rfl (hb hby d20_35) rfl rfl ?_
    refine st20 _ ?_
    refine st36 _ ?_
    refine XS.ifYes X36.here hx rfl (pc0 := 41) (pc' := 56) rfl (hb hby d20_41) rfl ((if0 _ _).trans (teq ((by decide) : (0 : Int32) = (0 : Int32))).1) (by decide) (by decide) ?_
    refine XS.aloadN X36.here hx rfl (hb hby d20_56) rfl rfl ?_
    refine st38 _ ?_
    refine st43 _ ?_
    show Steps p.tables e below (T43.setTop (mkF m 62 #[vr a1, vr a15, .unset] [(.int 1)])) _
    refine XS.ifNo X43.here hx rfl (hb hby d20_62) rfl ((if0 _ _).trans (feq ((by decide) : ¬ ((1 : Int32) = (0 : Int32)))).1) ?_
    refine XS.aloadN X43.here hx rfl (hb hby d20_65) rfl rfl ?_
    refine st44 _ ?_
    refine st48 _ ?_
    refine XS.ifYes X48.here hx rfl (pc0 := 71) (pc' := 76) rfl (hb hby d20_71) rfl ((if0 _ _).trans (teq ((by decide) : (0 : Int32) = (0 : Int32))).1) (by decide) (by decide) ?_
    refine XS.aloadN X48.here hx rfl (hb hby d20_76) rfl rfl ?_
    refine XS.dup X48.here hx rfl (hb hby d20_77) rfl rfl ?_
    refine st51 _ ?_
    refine XS.iconst X51.here hx rfl (hb hby d20_81) ?_
    refine XS.iadd X51.here hx rfl (hb hby d20_82) rfl ?_
    show Steps p.tables e below (T51.setTop (mkF m 83 #[vr a1, vr a15, .unset] [(.int ((0 : Int32) + (1 : Int32))), (.ref a1)])) _
    rw [show ((0 : Int32) + (1 : Int32)) = (1 : Int32) from by decide]
    refine st54 _ ?_
    refine XS.aloadN X54.here hx rfl (hb hby d20_86) rfl rfl ?_
    refine st57 _ ?_
    refine st62 _ ?_
    refine XS.ifYes X62.here hx rfl (pc0 := 92) (pc' := 142) rfl (hb hby d20_92) rfl ((if0 _ _).trans (teq ((by decide) : (0 : Int32) = (0 : Int32))).1) (by decide) (by decide) ?_
    refine XS.aloadN X62.here hx rfl (hb hby d20_142) rfl rfl ?_
    refine XS.aloadN X62.here hx rfl (hb hby d20_143) rfl rfl ?_
    refine XS.iconst X62.here hx rfl (hb hby d20_144) ?_
    refine XS.iconst X62.here hx rfl (hb hby d20_145) ?_
    show Steps p.tables e below (T62.setTop (mkF m 146 #[vr a1, vr a15, .unset] [(.int 2), (.int 0), (.ref a15), (.ref a1)])) _
    refine st64 _ ?_
    refine st67 _ ?_
    refine XS.aloadN X67.here hx rfl (hb hby d20_152) rfl rfl ?_
    refine XS.aloadN X67.here hx rfl (hb hby d20_153) rfl rfl ?_
    refine st72 _ ?_
    refine XS.iconst X72.here hx rfl (hb hby d20_157) ?_
    refine XS.icmpYes X72.here hx rfl (pc0 := 158) (pc' := 169) rfl (hb hby d20_158) rfl (flt ((by decide) : ¬ ((2 : Int32) < (2 : Int32)))).2.2.2 (by decide) (by decide) ?_
    refine XS.aconstNull X72.here hx rfl (hb hby d20_169) ?_
    refine st75 _ ?_
    refine XS.aloadN X75.here hx rfl (hb hby d20_173) rfl rfl ?_
    show Steps p.tables e below (T75.setTop (mkF m 174 #[vr a1, vr a15, .unset] [(.ref a1)])) _
    refine st77 _ ?_
    jvm_step X77.here [X77.here.top, hx, (hb hby d20_177), X77.method', Bd.returns, Value.isRef, FieldType.isReference]
    first | (intro acts; rw [hr _ acts rfl rfl rfl]) | rw [hr _ _ rfl rfl rfl]
    exact Steps.refl _
  · show Qrm20_1 Z a1 a4 a12 k14 a15 p21 a25 k27 p28 p29 h0 n0 _ T77.heap _
    rw [e77]
    exact ⟨rfl, N75, K75, f78, f79, f80, f76, Fw75⟩
def Qrm15_1 (Z : State) (a1 : Addr) (a2 : Addr) (a3 : Addr) (k4 : ClassId) (a5 : Addr) (h0 : Heap) (n0 : Nat) (v : Option Value) (h : Heap) (L : List Loc) : Prop := v = none ∧ Fr n0 L ∧ Keep h0 h [a3, a1] ∧ Arv Z h a3 k4 (.object "java/lang/Object") (10 : Int32) [(.ref a5), (.ref a2)] .null ∧ Exa Z h a3 "[Ljava/lang/Object;" ∧ Exa Z h a1 "java/util/ArrayList" ∧ Fld Z h a1 "java/util/ArrayList" "size" "I" (.int 2) ∧ Fld Z h a1 "java/util/AbstractList" "modCount" "I" (.int 2) ∧ Fld Z h a1 "java/util/ArrayList" "elementData" "[Ljava/lang/Object;" (.ref a3)
set_option maxRecDepth 65536 in
set_option maxHeartbeats 40000000 in
theorem rm15_1 (l : Launch) (Z : State) (a0 : Array Value) (hw : ∀ d ∈ tables_1, d.before a0 Z = true) (ws : List Jvm.Cond) (a1 : Addr) (a2 : Addr) (a3 : Addr) (k4 : ClassId) (a5 : Addr) (h0 : Heap) (n0 : Nat) (O0 : Old Z n0 h0) (V_6 : Arv Z h0 a3 k4 (.object "java/lang/Object") (10 : Int32) [(.ref a5)] .null) (g_a3 : n0 ≤ a3) (E_10 : Exa Z h0 a2 "java/lang/String") (O_11 : Ovr Z k4 "java/lang/Object") (E_13 : Exa Z h0 a3 "[Ljava/lang/Object;") (E_14 : Exa Z h0 a1 "java/util/ArrayList") (F_15 : Fld Z h0 a1 "java/util/ArrayList" "size" "I" (.int 1)) (ne_a1_a3 : a1 ≠ a3) (g_a1 : n0 ≤ a1) (F_19 : Fld Z h0 a1 "java/util/AbstractList" "modCount" "I" (.int 2)) (F_20 : Fld Z h0 a1 "java/util/ArrayList" "elementData" "[Ljava/lang/Object;" (.ref a3)) :
    MF l Z h0 (⟨"java/util/ArrayList", "add", "(Ljava/lang/Object;[Ljava/lang/Object;I)V"⟩ : MethodName) jdk_38_method_24_code 4 none ws (⟨0, 0, 0, 0⟩ : Room) #[(.ref a1), (.ref a2), (.ref a3), (.int 1)] (Qrm15_1 Z a1 a2 a3 k4 a5 h0 n0) := by
  refine MetFree.of_bodySF (plainFor_of_name pn_15) hisR ?_
  intro p e s m args below meth c s₁ Bd hml0 hP hK
  obtain ⟨rfl, hZ, hh⟩ := hP
  have hx := Bd.exec
  have hby := Bd.bytes
  have hown : s.vm.findClass "java/util/ArrayList" = some m.cls := findClass_of_methodNamed Bd.named
  have X0 : Stand p l e (⟨0, 0, 0, 0⟩ : Room) s m #[(.ref a1), (.ref a2), (.ref a3), (.int 1)] below meth c s₁ [] 0 0 := Stand.of_body Bd
  have e0 : s₁.heap = h0 := by rw [← hh, Bd.state]; rfl
  have N0 := Fr.nil n0
  have pre0 : ∀ t, Steps p.tables e below (s₁.setTop (mkF m 0 #[vr a1, vr a2, vr a3, vi 1] [])) t → Steps p.tables e below (s₁.setTop (entryFrame m #[(.ref a1), (.ref a2), (.ref a3), (.int 1)] 4)) t := fun t k => castTop (ef_15_RRRI m a1 a2 a3 (1 : Int32)) k
  obtain ⟨cl7, Ar7, q7, S7, M7, Hs7, G7⟩ := id V_6
  have V8 : Arv Z h0 a3 k4 (.object "java/lang/Object") (10 : Int32) [(.ref a5), .null] .null := V_6.pad (pad_rep [(.ref a5)] .null 1)
  obtain ⟨cl9, Ar9, q9, S9, M9, Hs9, G9⟩ := id V8
  have hin9 : ¬ ((1 : Int32) < 0 ∨ cl9.slots.size ≤ ((1 : Int32)).toNatClampNeg) := inb_of S9 ⟨by decide, by decide⟩
  obtain ⟨T12, h12, X12, e12, W12, st12⟩ := stR X0 hx hZ e0 Ar9 (j := (1 : Int32)) hin9 rfl (Sto.ofV Ar9 q9 O_11 (Ins.of_exa E_10 (W hw 98 rfl))) (g := (mkF m 14 #[vr a1, vr a2, vr a3, vi 1] [(.ref a2), (.int 1), (.ref a3)])) rfl rfl (hb hby d15_14)
  have K12 := (Keep.refl h0 [a3, a1]).wr W12 (Or.inl (List.mem_of_getElem? (i := 0) rfl))
  have N12 := Fr.snoc X12 N0 g_a3
  have Vw12 : Arv Z h12 a3 k4 (.object "java/lang/Object") (10 : Int32) [(.ref a5), (.ref a2)] .null := Arv.set Ar9 q9 S9 M9 Hs9 G9 rfl W12 1 rfl (Nat.le_of_ble_eq_true rfl)
  have f16 := (F_15.other W12 (Or.inl ne_a1_a3))
  have f17 := (E_14.wr W12)
  obtain ⟨T18, h18, X18, e18, W18, st18⟩ := putF X12 hx hZ hown (host := "") (Or.inl (W hw 75 rfl)) Via.refl e12 f16 f17 (Or.inl (W hw 76 rfl)) (W hw 45 rfl) (ty := .int) (by decide) rfl rfl (g := (mkF m 19 #[vr a1, vr a2, vr a3, vi 1] [(.int 2), (.ref a1)])) rfl rfl (hb hby d15_19)
  have K18 := K12.wr W18 (Or.inl (List.mem_of_getElem? (i := 1) rfl))
  have N18 := Fr.snoc X18 N12 g_a1
  have Fw18 := f16.same W18
  have f21 := (Vw12.other W18 (Ne.symm ne_a1_a3))
  have f22 := ((E_13.wr W12).wr W18)
  have f23 := (f17.wr W18)
  have f24 := ((F_19.other W12 (Or.inl ne_a1_a3)).other W18 (Or.inr (slot_ne (Or.inl (W hw 64 rfl)) (Or.inl (W hw 76 rfl)) (by decide) (t := .int) (t' := .int) (by decide) (by decide))))
  have f25 := ((F_20.other W12 (Or.inl ne_a1_a3)).other W18 (Or.inr (slot_ne (Or.inl (W hw 67 rfl)) (Or.inl (W hw 76 rfl)) (by decide) (t := (.array (.object "java/lang/Object"))) (t' := .int) (by decide) (by decide))))
  obtain ⟨fs, hr, hrun, hended, hW, hsame⟩ := X18.leave (v := none) (fun _ => rfl)
  refine ⟨_, _, pre0 _ ?_, hrun, hended, _, _, rfl, ?_, ⟨_, rfl⟩, hW, hsame.mono (by decide) (by decide)⟩
  · show Steps p.tables e below (s₁.setTop (mkF m 0 #[vr a1, vr a2, vr a3, vi 1] [])) _
    refine XS.iloadN X0.here hx rfl (hb hby d15_0) rfl ?_
    refine XS.aloadN X0.here hx rfl (hb hby d15_1) rfl rfl ?_
    refine X0.arraylength hx (by rw [e0]; exact Ar7.1) (State.isArrayOf_alike hZ.alike Ar7.2.1) (g := (mkF m 2 #[vr a1, vr a2, vr a3, vi 1] [(.ref a3), (.int 1)])) rfl rfl (hb hby d15_2) _ ?_
    rw [len_of S7 M7]
    refine XS.icmpYes X0.here hx rfl (pc0 := 3) (pc' := 11) rfl (hb hby d15_3) rfl (feq ((by decide) : ¬ ((1 : Int32) = (10 : Int32)))).2 (by decide) (by decide) ?_
    refine XS.aloadN X0.here hx rfl (hb hby d15_11) rfl rfl ?_
    refine XS.iloadN X0.here hx rfl (hb hby d15_12) rfl ?_
    refine XS.aloadN X0.here hx rfl (hb hby d15_13) rfl rfl ?_
    refine st12 _ ?_
    refine XS.aloadN X12.here hx rfl (hb hby d15_15) rfl rfl ?_
    show Steps p.tables e below (T12.setTop (mkF m 16 #[vr a1, vr a2, vr a3, vi 1] [(.ref a1)])) _
    refine XS.iloadN X12.here hx rfl (hb hby d15_16) rfl ?_
    refine XS.iconst X12.here hx rfl (hb hby d15_17) ?_
    refine XS.iadd X12.here hx rfl (hb hby d15_18) rfl ?_
    show Steps p.tables e below (T12.setTop (mkF m 19 #[vr a1, vr a2, vr a3, vi 1] [(.int ((1 : Int32) + (1 : Int32))), (.ref a1)])) _
    rw [show ((1 : Int32) + (1 : Int32)) = (2 : Int32) from by decide]
    refine st18 _ ?_
    exact X18.returnOut hx Bd.returns (hb hby d15_22) hr
  · show Qrm15_1 Z a1 a2 a3 k4 a5 h0 n0 _ T18.heap _
    rw [e18]
    exact ⟨rfl, N18, K18, f21, f22, f23, Fw18, f24, f25⟩
def Qrm14_1 (Z : State) (a1 : Addr) (a2 : Addr) (a7 : Addr) (k14 : ClassId) (a15 : Addr) (h0 : Heap) (n0 : Nat) (v : Option Value) (h : Heap) (L : List Loc) : Prop := v = some (.int 1) ∧ Fr n0 L ∧ Keep h0 h [a1, a7] ∧ Exa Z h a1 "java/util/ArrayList" ∧ Fld Z h a1 "java/util/ArrayList" "size" "I" (.int 2) ∧ Fld Z h a1 "java/util/AbstractList" "modCount" "I" (.int 2) ∧ Fld Z h a1 "java/util/ArrayList" "elementData" "[Ljava/lang/Object;" (.ref a7) ∧ Exa Z h a7 "[Ljava/lang/Object;" ∧ Arv Z h a7 k14 (.object "java/lang/Object") (10 : Int32) [(.ref a15), (.ref a2)] .null
set_option maxRecDepth 65536 in
set_option maxHeartbeats 40000000 in
theorem rm14_1 (l : Launch) (Z : State) (a0 : Array Value) (hw : ∀ d ∈ tables_1, d.before a0 Z = true) (ws : List Jvm.Cond) (a1 : Addr) (a2 : Addr) (a7 : Addr) (k14 : ClassId) (a15 : Addr) (h0 : Heap) (n0 : Nat) (O0 : Old Z n0 h0) (F_3 : Fld Z h0 a1 "java/util/AbstractList" "modCount" "I" (.int 1)) (E_5 : Exa Z h0 a1 "java/util/ArrayList") (g_a1 : n0 ≤ a1) (F_8 : Fld Z h0 a1 "java/util/ArrayList" "elementData" "[Ljava/lang/Object;" (.ref a7)) (F_9 : Fld Z h0 a1 "java/util/ArrayList" "size" "I" (.int 1)) (V_16 : Arv Z h0 a7 k14 (.object "java/lang/Object") (10 : Int32) [(.ref a15)] .null) (g_a7 : n0 ≤ a7) (E_17 : Exa Z h0 a2 "java/lang/String") (O_18 : Ovr Z k14 "java/lang/Object") (E_19 : Exa Z h0 a7 "[Ljava/lang/Object;") (ne_a1_a7 : a1 ≠ a7) :
    MF l Z h0 (⟨"java/util/ArrayList", "add", "(Ljava/lang/Object;)Z"⟩ : MethodName) jdk_38_method_25_code 2 (some .boolean) ws (⟨1, 0, 0, 15⟩ : Room) #[(.ref a1), (.ref a2)] (Qrm14_1 Z a1 a2 a7 k14 a15 h0 n0) := by
  refine MetFree.of_bodySF (plainFor_of_name pn_15) hisR ?_
  intro p e s m args below meth c s₁ Bd hml0 hP hK
  obtain ⟨rfl, hZ, hh⟩ := hP
  have hx := Bd.exec
  have hby := Bd.bytes
  have hml : c.maxLocals = 2 := hml0
  have hown : s.vm.findClass "java/util/ArrayList" = some m.cls := findClass_of_methodNamed Bd.named
  have X0 : Stand p l e (⟨1, 0, 0, 15⟩ : Room) s m #[(.ref a1), (.ref a2)] below meth c s₁ [] 0 0 := Stand.of_body Bd
  have e0 : s₁.heap = h0 := by rw [← hh, Bd.state]; rfl
  have N0 := Fr.nil n0
  have pre0 : ∀ t, Steps p.tables e below (s₁.setTop (mkF m 0 #[vr a1, vr a2] [])) t → Steps p.tables e below (s₁.setTop (entryFrame m #[(.ref a1), (.ref a2)] 2)) t := fun t k => castTop (ef_14_RR m a1 a2) k
  obtain ⟨T4, X4, e4, st4⟩ := getF X0 hx hZ hown (host := "") (Or.inl (W hw 73 rfl)) (Via.of (W hw 74 rfl)) e0 F_3 (g := (mkF m 2 #[vr a1, vr a2] [(.ref a1), (.ref a1)])) rfl rfl (hb hby d14_2)
  obtain ⟨T6, h6, X6, e6, W6, st6⟩ := putF X4 hx hZ hown (host := "") (Or.inl (W hw 73 rfl)) (Via.of (W hw 74 rfl)) e4 F_3 E_5 (Or.inl (W hw 64 rfl)) (W hw 45 rfl) (ty := .int) (by decide) rfl rfl (g := (mkF m 7 #[vr a1, vr a2] [(.int 2), (.ref a1)])) rfl rfl (hb hby d14_7)
  have K6 := (Keep.refl h0 [a1, a7]).wr W6 (Or.inl (List.mem_of_getElem? (i := 0) rfl))
  have O6 := O0.wr W6 g_a1
  have N6 := Fr.snoc X6 N0 g_a1
  have Fw6 := F_3.same W6
  have f10 := (F_8.other W6 (Or.inr (slot_ne (Or.inl (W hw 67 rfl)) (Or.inl (W hw 64 rfl)) (by decide) (t := (.array (.object "java/lang/Object"))) (t' := .int) (by decide) (by decide))))
  obtain ⟨T11, X11, e11, st11⟩ := getF X6 hx hZ hown (host := "") (Or.inl (W hw 66 rfl)) Via.refl e6 f10 (g := (mkF m 13 #[vr a1, vr a2] [(.ref a1), (.ref a2), (.ref a1)])) rfl rfl (hb hby d14_13)
  have f12 := (F_9.other W6 (Or.inr (slot_ne (Or.inl (W hw 76 rfl)) (Or.inl (W hw 64 rfl)) (by decide) (t := .int) (t' := .int) (by decide) (by decide))))
  obtain ⟨T13, X13, e13, st13⟩ := getF X11 hx hZ hown (host := "") (Or.inl (W hw 75 rfl)) Via.refl e11 f12 (g := (mkF m 17 #[vr a1, vr a2] [(.ref a1), (.ref a7), (.ref a2), (.ref a1)])) rfl rfl (hb hby d14_17)
  have f20 := (V_16.other W6 (Ne.symm ne_a1_a7))
  have f21 := (E_17.wr W6)
  have f22 := (E_19.wr W6)
  have f23 := (E_5.wr W6)
  obtain ⟨cq24, q24, q24'⟩ := f23.cell
  obtain ⟨_, _, ⟨T24, L24, k24, n24⟩, -, X24, ⟨Lc24, hQ24, l24, y24, z24⟩, st24⟩ := X13.privateBack hx (y := (⟨"java/util/ArrayList", "add", "(Ljava/lang/Object;[Ljava/lang/Object;I)V"⟩ : MethodName)) hown (mvT hZ (W hw 77 rfl)) (mvT hZ (W hw 78 rfl)) (mvT hZ (W hw 80 rfl)) (Cond.privateMethod_at (mvP hZ (W hw 79 rfl) (args := #[]))) (mvT hZ (W hw 81 rfl)) (by decide) (backOf (W := 0) (rm15_1 l Z a0 hw [] a1 a2 a7 k14 a15 h6 n0 O6 f20 g_a7 f21 O_18 f22 f23 f12 ne_a1_a7 g_a1 Fw6 f10) hZ (W hw 81 rfl) (W hw 46 rfl) (by decide) (by decide)) (g := (mkF m 20 #[vr a1, vr a2] [(.int 1), (.ref a7), (.ref a2), (.ref a1)])) rfl (by rw [hml]; rfl) (Steps.refl _) (a := a1) (by rw [e13]; exact q24) q24' (argsL := [(.ref a2), (.ref a7), (.int 1)]) (rest := []) (lenOf pd_19 rfl) rfl (by show 2 * 0 + _ ≤ _; exact Nat.le_of_eq rfl) (hb hby d14_20) (fun _ _ => ⟨rfl, e13, (by decide : 0 + 0 ≤ _), (by decide : 0 + 0 ≤ _)⟩)
  dsimp only [Pt.U, Pt.locs, Pt.cells, Pt.slots] at X24 l24 y24 z24 st24 hQ24
  subst l24 y24 z24
  obtain ⟨rfl, Nq24, K24, P24_0, P24_1, P24_2, P24_3, P24_4, P24_5⟩ := hQ24
  have N24 := Fr.app N6 Nq24
  have KK24 := Keep.trans (h := h6) K6 K24 (allS (Or.inl (List.mem_of_getElem? (i := 1) rfl)) (allS (Or.inl (List.mem_of_getElem? (i := 0) rfl)) all0))
  obtain ⟨fs, hr, hrun, hended, hW, hsame⟩ := X24.leave (v := some (.int 1)) (fun h => by rw [Bd.returns] at h; cases h)
  refine ⟨_, _, pre0 _ ?_, hrun, hended, _, _, rfl, ?_, ⟨_, rfl⟩, hW, hsame.mono (by decide) (by decide)⟩
  · show Steps p.tables e below (s₁.setTop (mkF m 0 #[vr a1, vr a2] [])) _
    refine XS.aloadN X0.here hx rfl (hb hby d14_0) rfl rfl ?_
    refine XS.dup X0.here hx rfl (hb hby d14_1) rfl rfl ?_
    refine st4 _ ?_
    refine XS.iconst X4.here hx rfl (hb hby d14_5) ?_
    refine XS.iadd X4.here hx rfl (hb hby d14_6) rfl ?_
    show Steps p.tables e below (T4.setTop (mkF m 7 #[vr a1, vr a2] [(.int ((1 : Int32) + (1 : Int32))), (.ref a1)])) _
    rw [show ((1 : Int32) + (1 : Int32)) = (2 : Int32) from by decide]
    refine st6 _ ?_
    refine XS.aloadN X6.here hx rfl (hb hby d14_10) rfl rfl ?_
    refine XS.aloadN X6.here hx rfl (hb hby d14_11) rfl rfl ?_
    refine XS.aloadN X6.here hx rfl (hb hby d14_12) rfl rfl ?_
    refine st11 _ ?_
    refine XS.aloadN X11.here hx rfl (hb hby d14_16) rfl rfl ?_
    refine st13 _ ?_
    refine st24.trans ?_
    refine XS.iconst X24.here hx rfl (hb hby d14_23) ?_
    show Steps p.tables e below (T24.setTop (mkF m 24 #[vr a1, vr a2] [(.int 1)])) _
    exact retN X24 hx (t := .boolean) Bd.returns (by simp) (hb hby d14_24) hr
  · show Qrm14_1 Z a1 a2 a7 k14 a15 h0 n0 _ T24.heap _
    exact ⟨rfl, N24, KK24, P24_2, P24_3, P24_4, P24_5, P24_1, P24_0⟩
set_option maxRecDepth 65536 in
set_option maxHeartbeats 40000000 in
theorem sg0_218_226 {p : Program} {l : Launch} {e : Env} {R : Room} {s : State} {m : MethodId} {args : Array Value} {below : List Frame} {meth : Method} {c : Code} {T0 : State} {locs : List Loc} {cells slots : Nat} {Z : State} {a0 : Array Value} (hw : ∀ d ∈ tables_1, d.before a0 Z = true) (p1 : Int32) (p2 : Int32) (p3 : Int32) (p4 : Int32) (p5 : Int32) (p6 : Int32) (p7 : Int32) (p8 : Int32) (p9 : Int32) (a10 : Addr) (a11 : Addr) (a12 : Addr) (a15 : Addr) (k18 : ClassId) (h0 : Heap) (n0 : Nat) (O0 : Old Z n0 h0) (E_13 : Exa Z h0 a12 "java/util/ArrayList") (F_14 : Fld Z h0 a12 "java/util/AbstractList" "modCount" "I" (.int 1)) (g_a12 : n0 ≤ a12) (F_16 : Fld Z h0 a12 "java/util/ArrayList" "elementData" "[Ljava/lang/Object;" (.ref a15)) (F_17 : Fld Z h0 a12 "java/util/ArrayList" "size" "I" (.int 1)) (V_19 : Arv Z h0 a15 k18 (.object "java/lang/Object") (10 : Int32) [(.ref a10)] .null) (g_a15 : n0 ≤ a15) (E_20 : Exa Z h0 a11 "java/lang/String") (O_21 : Ovr Z k18 "java/lang/Object") (E_22 : Exa Z h0 a15 "[Ljava/lang/Object;") (ne_a12_a15 : a12 ≠ a15)
    (X0 : Stand p l e R s m args below meth c T0 locs cells slots) (hx : p.tables.exec = Jvm.exec) (hZ : Z.Warmed39 s.vm) (hby : c.code = code) (hml : c.maxLocals = 18) (hown : s.vm.findClass "com/example/runqueue/runqueue/ArgumentsFlagPinLaw" = some m.cls) (e0 : T0.heap = h0) (N0 : Fr n0 locs) (hrc : cells + 0 ≤ R.cells) (hrs : slots + 0 ≤ R.slots) (hrf : 2 ≤ R.frames) (hrl : 28 ≤ R.locals) :
    ∃ (T' : State) (L' : List Loc), Stand p l e R s m args below meth c T' L' (cells + 0) (slots + 0) ∧ Fr n0 L' ∧ (Keep h0 T'.heap [a12, a15] ∧ Exa Z T'.heap a12 "java/util/ArrayList" ∧ Fld Z T'.heap a12 "java/util/ArrayList" "size" "I" (.int 2) ∧ Fld Z T'.heap a12 "java/util/AbstractList" "modCount" "I" (.int 2) ∧ Fld Z T'.heap a12 "java/util/ArrayList" "elementData" "[Ljava/lang/Object;" (.ref a15) ∧ Exa Z T'.heap a15 "[Ljava/lang/Object;" ∧ Arv Z T'.heap a15 k18 (.object "java/lang/Object") (10 : Int32) [(.ref a10), (.ref a11)] .null ∧ (∀ t, Steps p.tables e below (T'.setTop (mkF m 226 #[vi p1, vi p2, vi p3, vi p4, vi p5, vi p6, vi p7, vi p8, vi p9, vr a10, vr a11, vr a12, .unset, .unset, .unset, .unset, .unset, .unset] [])) t → Steps p.tables e below (T0.setTop (mkF m 218 #[vi p1, vi p2, vi p3, vi p4, vi p5, vi p6, vi p7, vi p8, vi p9, vr a10, vr a11, vr a12, .unset, .unset, .unset, .unset, .unset, .unset] [])) t)) := by
  obtain ⟨_, T23, L23, X23, hQ23, st23⟩ := cV X0 hx hZ hown (W hw 68 rfl) (W hw 69 rfl) (notFace_of_selects (args := #[]) (mvT hZ (W hw 71 rfl))) (W hw 71 rfl) (W hw 70 rfl) (W hw 72 rfl) (W hw 46 rfl) (by decide) (rm14_1 l Z a0 hw [] a12 a11 a15 k18 a10 h0 n0 O0 F_14 E_13 g_a12 F_16 F_17 V_19 g_a15 E_20 O_21 E_22 ne_a12_a15) e0 E_13 #[vi p1, vi p2, vi p3, vi p4, vi p5, vi p6, vi p7, vi p8, vi p9, vr a10, vr a11, vr a12, .unset, .unset, .unset, .unset, .unset, .unset] [] (by rw [hml]; rfl) (hb hby at_222) pd_20 rfl (W := 0) (Nat.le_of_eq rfl) (Nat.le_trans (by decide) hrf) (Nat.le_trans (by decide) hrl) (Nat.le_trans (by omega) hrc : cells + 0 ≤ R.cells) (Nat.le_trans (by omega) hrs : slots + 0 ≤ R.slots)
  obtain ⟨rfl, Nq23, K23, P23_0, P23_1, P23_2, P23_3, P23_4, P23_5⟩ := hQ23
  have N23 := Fr.app N0 Nq23
  have KK23 := Keep.trans (h := h0) (Keep.refl h0 [a12, a15]) K23 (allS (Or.inl (List.mem_of_getElem? (i := 0) rfl)) (allS (Or.inl (List.mem_of_getElem? (i := 1) rfl)) all0))
  refine ⟨T23, _, X23.more (show cells + 0 ≤ cells + 0 by omega) (show slots + 0 ≤ slots + 0 by omega), N23, ?_⟩
  refine ⟨KK23, P23_0, P23_1, P23_2, P23_3, P23_4, P23_5, fun t kt => ?_⟩
  show Steps p.tables e below (T0.setTop (mkF m 218 #[vi p1, vi p2, vi p3, vi p4, vi p5, vi p6, vi p7, vi p8, vi p9, vr a10, vr a11, vr a12, .unset, .unset, .unset, .unset, .unset, .unset] [])) _
  refine XS.aload X0.here hx rfl (hb hby at_218) rfl rfl ?_
  refine XS.aload X0.here hx rfl (hb hby at_220) rfl rfl ?_
  refine st23 _ ?_
  refine XS.pop X23.here hx rfl (hb hby at_225) rfl rfl ?_
  exact kt
def Qrm21_1 (Z : State) (a1 : Addr) (h0 : Heap) (n0 : Nat) (v : Option Value) (h : Heap) (L : List Loc) : Prop := v = some (.int 2) ∧ Fr n0 L ∧ h = h0
set_option maxRecDepth 65536 in
set_option maxHeartbeats 40000000 in
theorem rm21_1 (l : Launch) (Z : State) (a0 : Array Value) (hw : ∀ d ∈ tables_1, d.before a0 Z = true) (ws : List Jvm.Cond) (a1 : Addr) (h0 : Heap) (n0 : Nat) (O0 : Old Z n0 h0) (F_2 : Fld Z h0 a1 "java/util/ArrayList" "size" "I" (.int 2)) :
    MF l Z h0 (⟨"java/util/ArrayList", "size", "()I"⟩ : MethodName) jdk_38_method_8_code 1 (some .int) ws (⟨0, 0, 0, 0⟩ : Room) #[(.ref a1)] (Qrm21_1 Z a1 h0 n0) := by
  refine MetFree.of_bodySF (plainFor_of_name pn_15) hisR ?_
  intro p e s m args below meth c s₁ Bd hml0 hP hK
  obtain ⟨rfl, hZ, hh⟩ := hP
  have hx := Bd.exec
  have hby := Bd.bytes
  have hown : s.vm.findClass "java/util/ArrayList" = some m.cls := findClass_of_methodNamed Bd.named
  have X0 : Stand p l e (⟨0, 0, 0, 0⟩ : Room) s m #[(.ref a1)] below meth c s₁ [] 0 0 := Stand.of_body Bd
  have e0 : s₁.heap = h0 := by rw [← hh, Bd.state]; rfl
  have N0 := Fr.nil n0
  have pre0 : ∀ t, Steps p.tables e below (s₁.setTop (mkF m 0 #[vr a1] [])) t → Steps p.tables e below (s₁.setTop (entryFrame m #[(.ref a1)] 1)) t := fun t k => castTop (ef_21_R m a1) k
  obtain ⟨T3, X3, e3, st3⟩ := getF X0 hx hZ hown (host := "") (Or.inl (W hw 75 rfl)) Via.refl e0 F_2 (g := (mkF m 1 #[vr a1] [(.ref a1)])) rfl rfl (hb hby d21_1)
  obtain ⟨fs, hr, hrun, hended, hW, hsame⟩ := X3.leave (v := some (.int 2)) (fun h => by rw [Bd.returns] at h; cases h)
  refine ⟨_, _, pre0 _ ?_, hrun, hended, _, _, rfl, ?_, ⟨_, rfl⟩, hW, hsame.mono (by decide) (by decide)⟩
  · show Steps p.tables e below (s₁.setTop (mkF m 0 #[vr a1] [])) _
    refine XS.aloadN X0.here hx rfl (hb hby d21_0) rfl rfl ?_
    refine st3 _ ?_
    exact retI X3 hx Bd.returns (hb hby d21_4) hr
  · show Qrm21_1 Z a1 h0 n0 _ T3.heap _
    rw [e3]
    exact ⟨rfl, N0, rfl⟩
def Qrm24_1 (Z : State)  (h0 : Heap) (n0 : Nat) (v : Option Value) (h : Heap) (L : List Loc) : Prop := v = some (.int 0) ∧ Fr n0 L ∧ h = h0
set_option maxRecDepth 65536 in
set_option maxHeartbeats 40000000 in
theorem rm24_1 (l : Launch) (Z : State) (a0 : Array Value) (hw : ∀ d ∈ tables_1, d.before a0 Z = true) (ws : List Jvm.Cond)  (h0 : Heap) (n0 : Nat) (O0 : Old Z n0 h0) :
    MF l Z h0 (⟨"jdk/internal/util/Preconditions", "checkIndex", "(IILjava/util/function/BiFunction;)I"⟩ : MethodName) jdk_41_method_11_code 3 (some .int) ws (⟨0, 0, 0, 0⟩ : Room) #[(.int 0), (.int 2), .null] (Qrm24_1 Z  h0 n0) := by
  refine MetFree.of_bodySF (plainFor_of_name pn_24) hisR ?_
  intro p e s m args below meth c s₁ Bd hml0 hP hK
  obtain ⟨rfl, hZ, hh⟩ := hP
  have hx := Bd.exec
  have hby := Bd.bytes
  have X0 : Stand p l e (⟨0, 0, 0, 0⟩ : Room) s m #[(.int 0), (.int 2), .null] below meth c s₁ [] 0 0 := Stand.of_body Bd
  have e0 : s₁.heap = h0 := by rw [← hh, Bd.state]; rfl
  have N0 := Fr.nil n0
  have pre0 : ∀ t, Steps p.tables e below (s₁.setTop (mkF m 0 #[vi 0, vi 2, .val .null] [])) t → Steps p.tables e below (s₁.setTop (entryFrame m #[(.int 0), (.int 2), .null] 3)) t := fun t k => castTop (ef_24_IIn m (0 : Int32) (2 : Int32)) k
  obtain ⟨fs, hr, hrun, hended, hW, hsame⟩ := X0.leave (v := some (.int 0)) (fun h => by rw [Bd.returns] at h; cases h)
  refine ⟨_, _, pre0 _ ?_, hrun, hended, _, _, rfl, ?_, ⟨_, rfl⟩, hW, hsame.mono (by decide) (by decide)⟩
  · show Steps p.tables e below (s₁.setTop (mkF m 0 #[vi 0, vi 2, .val .null] [])) _
    refine XS.iloadN X0.here hx rfl (hb hby d24_0) rfl ?_
    refine XS.ifNo X0.here hx rfl (hb hby d24_1) rfl ((if0 _ _).trans (flt ((by decide) : ¬ ((0 : Int32) < (0 : Int32)))).1) ?_
    refine XS.iloadN X0.here hx rfl (hb hby d24_4) rfl ?_
    refine XS.iloadN X0.here hx rfl (hb hby d24_5) rfl ?_
    refine XS.icmpYes X0.here hx rfl (pc0 := 6) (pc' := 16) rfl (hb hby d24_6) rfl (tlt ((by decide) : (0 : Int32) < (2 : Int32))).1 (by decide) (by decide) ?_
    refine XS.iloadN X0.here hx rfl (hb hby d24_16) rfl ?_
    exact retI X0 hx Bd.returns (hb hby d24_17) hr
  · show Qrm24_1 Z  h0 n0 _ s₁.heap _
    rw [e0]
    exact ⟨rfl, N0, rfl⟩
def Qrm23_1 (Z : State)  (h0 : Heap) (n0 : Nat) (v : Option Value) (h : Heap) (L : List Loc) : Prop := v = some (.int 0) ∧ Fr n0 L ∧ h = h0
set_option maxRecDepth 65536 in
set_option maxHeartbeats 40000000 in
theorem rm23_1 (l : Launch) (Z : State) (a0 : Array Value) (hw : ∀ d ∈ tables_1, d.before a0 Z = true) (ws : List Jvm.Cond)  (h0 : Heap) (n0 : Nat) (O0 : Old Z n0 h0) :
    MF l Z h0 (⟨"java/util/Objects", "checkIndex", "(II)I"⟩ : MethodName) jdk_31_method_17_code 2 (some .int) ws (⟨1, 0, 0, 14⟩ : Room) #[(.int 0), (.int 2)] (Qrm23_1 Z  h0 n0) := by
  refine MetFree.of_bodySF (plainFor_of_name pn_26) hisR ?_
  intro p e s m args below meth c s₁ Bd hml0 hP hK
  obtain ⟨rfl, hZ, hh⟩ := hP
  have hx := Bd.exec
  have hby := Bd.bytes
  have hml : c.maxLocals = 2 := hml0
  have hown : s.vm.findClass "java/util/Objects" = some m.cls := findClass_of_methodNamed Bd.named
  have X0 : Stand p l e (⟨1, 0, 0, 14⟩ : Room) s m #[(.int 0), (.int 2)] below meth c s₁ [] 0 0 := Stand.of_body Bd
  have e0 : s₁.heap = h0 := by rw [← hh, Bd.state]; rfl
  have N0 := Fr.nil n0
  have pre0 : ∀ t, Steps p.tables e below (s₁.setTop (mkF m 0 #[vi 0, vi 2] [])) t → Steps p.tables e below (s₁.setTop (entryFrame m #[(.int 0), (.int 2)] 2)) t := fun t k => castTop (ef_23_II m (0 : Int32) (2 : Int32)) k
  obtain ⟨_, T1, L1, X1, hQ1, st1⟩ := cS X0 hx hZ hown (W hw 136 rfl) (W hw 137 rfl) (W hw 138 rfl) (W hw 139 rfl) (by decide) (rm24_1 l Z a0 hw []  h0 n0 O0 ) e0 #[vi 0, vi 2] [] (by rw [hml]; rfl) (hb hby d23_3) pd_25 rfl (W := 0) (Nat.le_of_eq rfl) (by decide) (by decide) (by decide) (by decide)
  obtain ⟨rfl, Nq1, e1⟩ := hQ1
  have N1 := Fr.app N0 Nq1
  obtain ⟨fs, hr, hrun, hended, hW, hsame⟩ := X1.leave (v := some (.int 0)) (fun h => by rw [Bd.returns] at h; cases h)
  refine ⟨_, _, pre0 _ ?_, hrun, hended, _, _, rfl, ?_, ⟨_, rfl⟩, hW, hsame.mono (by decide) (by decide)⟩
  · show Steps p.tables e below (s₁.setTop (mkF m 0 #[vi 0, vi 2] [])) _
    refine XS.iloadN X0.here hx rfl (hb hby d23_0) rfl ?_
    refine XS.iloadN X0.here hx rfl (hb hby d23_1) rfl ?_
    refine XS.aconstNull X0.here hx rfl (hb hby d23_2) ?_
    refine st1 _ ?_
    exact retI X1 hx Bd.returns (hb hby d23_6) hr
  · show Qrm23_1 Z  h0 n0 _ T1.heap _
    rw [e1]
    exact ⟨rfl, N1, rfl⟩
def Qrm25_1 (Z : State) (a1 : Addr) (a2 : Addr) (k5 : ClassId) (a6 : Addr) (a7 : Addr) (h0 : Heap) (n0 : Nat) (v : Option Value) (h : Heap) (L : List Loc) : Prop := v = some (.ref a6) ∧ Fr n0 L ∧ h = h0
set_option maxRecDepth 65536 in
set_option maxHeartbeats 40000000 in
theorem rm25_1 (l : Launch) (Z : State) (a0 : Array Value) (hw : ∀ d ∈ tables_1, d.before a0 Z = true) (ws : List Jvm.Cond) (a1 : Addr) (a2 : Addr) (k5 : ClassId) (a6 : Addr) (a7 : Addr) (h0 : Heap) (n0 : Nat) (O0 : Old Z n0 h0) (F_3 : Fld Z h0 a1 "java/util/ArrayList" "elementData" "[Ljava/lang/Object;" (.ref a2)) (V_8 : Arv Z h0 a2 k5 (.object "java/lang/Object") (10 : Int32) [(.ref a6), (.ref a7)] .null) :
    MF l Z h0 (⟨"java/util/ArrayList", "elementData", "(I)Ljava/lang/Object;"⟩ : MethodName) jdk_38_method_18_code 2 (some (.object "java/lang/Object")) ws (⟨0, 0, 0, 0⟩ : Room) #[(.ref a1), (.int 0)] (Qrm25_1 Z a1 a2 k5 a6 a7 h0 n0) := by
  refine MetFree.of_bodySF (plainFor_of_name pn_15) hisR ?_
  intro p e s m args below meth c s₁ Bd hml0 hP hK
  obtain ⟨rfl, hZ, hh⟩ := hP
  have hx := Bd.exec
  have hby := Bd.bytes
  have hown : s.vm.findClass "java/util/ArrayList" = some m.cls := findClass_of_methodNamed Bd.named
  have X0 : Stand p l e (⟨0, 0, 0, 0⟩ : Room) s m #[(.ref a1), (.int 0)] below meth c s₁ [] 0 0 := Stand.of_body Bd
  have e0 : s₁.heap = h0 := by rw [← hh, Bd.state]; rfl
  have N0 := Fr.nil n0
  have pre0 : ∀ t, Steps p.tables e below (s₁.setTop (mkF m 0 #[vr a1, vi 0] [])) t → Steps p.tables e below (s₁.setTop (entryFrame m #[(.ref a1), (.int 0)] 2)) t := fun t k => castTop (ef_25_RI m a1 (0 : Int32)) k
  obtain ⟨T4, X4, e4, st4⟩ := getF X0 hx hZ hown (host := "") (Or.inl (W hw 66 rfl)) Via.refl e0 F_3 (g := (mkF m 1 #[vr a1, vi 0] [(.ref a1)])) rfl rfl (hb hby d25_1)
  obtain ⟨cl9, Ar9, q9, S9, M9, Hs9, G9⟩ := id V_8
  have hin9 : ¬ ((0 : Int32) < 0 ∨ cl9.slots.size ≤ ((0 : Int32)).toNatClampNeg) := inb_of S9 ⟨by decide, by decide⟩
  have hat9 : cl9.slots[((0 : Int32)).toNatClampNeg]? = some (.ref a6) := Has.at Hs9 hin9 rfl
  obtain ⟨fs, hr, hrun, hended, hW, hsame⟩ := X4.leave (v := some (.ref a6)) (fun h => by rw [Bd.returns] at h; cases h)
  refine ⟨_, _, pre0 _ ?_, hrun, hended, _, _, rfl, ?_, ⟨_, rfl⟩, hW, hsame.mono (by decide) (by decide)⟩
  · show Steps p.tables e below (s₁.setTop (mkF m 0 #[vr a1, vi 0] [])) _
    refine XS.aloadN X0.here hx rfl (hb hby d25_0) rfl rfl ?_
    refine st4 _ ?_
    refine XS.iloadN X4.here hx rfl (hb hby d25_4) rfl ?_
    refine X4.aaload hx (j := (0 : Int32)) (v := (.ref a6)) (by rw [e4]; exact Ar9.1) (State.isArrayOf_alike hZ.alike Ar9.2.1) rfl Ar9.2.2 hin9 hat9 (g := (mkF m 5 #[vr a1, vi 0] [(.int 0), (.ref a2)])) rfl rfl (hb hby d25_5) _ ?_
    jvm_step X4.here [X4.here.top, hx, (hb hby d25_6), X4.method', Bd.returns, Value.isRef, FieldType.isReference]
    first | (intro acts; rw [hr _ acts rfl rfl rfl]) | rw [hr _ _ rfl rfl rfl]
    exact Steps.refl _
  · show Qrm25_1 Z a1 a2 k5 a6 a7 h0 n0 _ T4.heap _
    rw [e4]
    exact ⟨rfl, N0, rfl⟩
def Qrm22_1 (Z : State) (a1 : Addr) (a6 : Addr) (k8 : ClassId) (a9 : Addr) (a10 : Addr) (h0 : Heap) (n0 : Nat) (v : Option Value) (h : Heap) (L : List Loc) : Prop := v = some (.ref a9) ∧ Fr n0 L ∧ h = h0
set_option maxRecDepth 65536 in
set_option maxHeartbeats 40000000 in
theorem rm22_1 (l : Launch) (Z : State) (a0 : Array Value) (hw : ∀ d ∈ tables_1, d.before a0 Z = true) (ws : List Jvm.Cond) (a1 : Addr) (a6 : Addr) (k8 : ClassId) (a9 : Addr) (a10 : Addr) (h0 : Heap) (n0 : Nat) (O0 : Old Z n0 h0) (F_2 : Fld Z h0 a1 "java/util/ArrayList" "size" "I" (.int 2)) (E_5 : Exa Z h0 a1 "java/util/ArrayList") (F_7 : Fld Z h0 a1 "java/util/ArrayList" "elementData" "[Ljava/lang/Object;" (.ref a6)) (V_11 : Arv Z h0 a6 k8 (.object "java/lang/Object") (10 : Int32) [(.ref a9), (.ref a10)] .null) :
    MF l Z h0 (⟨"java/util/ArrayList", "get", "(I)Ljava/lang/Object;"⟩ : MethodName) jdk_38_method_20_code 2 (some (.object "java/lang/Object")) ws (⟨2, 0, 0, 27⟩ : Room) #[(.ref a1), (.int 0)] (Qrm22_1 Z a1 a6 k8 a9 a10 h0 n0) := by
  refine MetFree.of_bodySF (plainFor_of_name pn_15) hisR ?_
  intro p e s m args below meth c s₁ Bd hml0 hP hK
  obtain ⟨rfl, hZ, hh⟩ := hP
  have hx := Bd.exec
  have hby := Bd.bytes
  have hml : c.maxLocals = 2 := hml0
  have hown : s.vm.findClass "java/util/ArrayList" = some m.cls := findClass_of_methodNamed Bd.named
  have X0 : Stand p l e (⟨2, 0, 0, 27⟩ : Room) s m #[(.ref a1), (.int 0)] below meth c s₁ [] 0 0 := Stand.of_body Bd
  have e0 : s₁.heap = h0 := by rw [← hh, Bd.state]; rfl
  have N0 := Fr.nil n0
  have pre0 : ∀ t, Steps p.tables e below (s₁.setTop (mkF m 0 #[vr a1, vi 0] [])) t → Steps p.tables e below (s₁.setTop (entryFrame m #[(.ref a1), (.int 0)] 2)) t := fun t k => castTop (ef_22_RI m a1 (0 : Int32)) k
  obtain ⟨T3, X3, e3, st3⟩ := getF X0 hx hZ hown (host := "") (Or.inl (W hw 75 rfl)) Via.refl e0 F_2 (g := (mkF m 2 #[vr a1, vi 0] [(.ref a1), (.int 0)])) rfl rfl (hb hby d22_2)
  obtain ⟨_, T4, L4, X4, hQ4, st4⟩ := cS X3 hx hZ hown (W hw 132 rfl) (W hw 133 rfl) (W hw 134 rfl) (W hw 135 rfl) (by decide) (rm23_1 l Z a0 hw []  h0 n0 O0 ) e3 #[vr a1, vi 0] [] (by rw [hml]; rfl) (hb hby d22_5) pd_16 rfl (W := 0) (Nat.le_of_eq rfl) (by decide) (by decide) (by decide) (by decide)
  obtain ⟨rfl, Nq4, e4⟩ := hQ4
  have N4 := Fr.app N0 Nq4
  obtain ⟨_, T12, L12, X12, hQ12, st12⟩ := cV X4 hx hZ hown (W hw 140 rfl) (W hw 141 rfl) (notFace_of_selects (args := #[]) (mvT hZ (W hw 143 rfl))) (W hw 143 rfl) (W hw 142 rfl) (W hw 144 rfl) (W hw 46 rfl) (by decide) (rm25_1 l Z a0 hw [] a1 a6 k8 a9 a10 h0 n0 O0 F_7 V_11) e4 E_5 #[vr a1, vi 0] [] (by rw [hml]; rfl) (hb hby d22_11) pd_27 rfl (W := 0) (Nat.le_of_eq rfl) (by decide) (by decide) (by decide) (by decide)
  obtain ⟨rfl, Nq12, e12⟩ := hQ12
  have N12 := Fr.app N4 Nq12
  obtain ⟨fs, hr, hrun, hended, hW, hsame⟩ := X12.leave (v := some (.ref a9)) (fun h => by rw [Bd.returns] at h; cases h)
  refine ⟨_, _, pre0 _ ?_, hrun, hended, _, _, rfl, ?_, ⟨_, rfl⟩, hW, hsame.mono (by decide) (by decide)⟩
  · show Steps p.tables e below (s₁.setTop (mkF m 0 #[vr a1, vi 0] [])) _
    refine XS.iloadN X0.here hx rfl (hb hby d22_0) rfl ?_
    refine XS.aloadN X0.here hx rfl (hb hby d22_1) rfl rfl ?_
    refine st3 _ ?_
    refine st4 _ ?_
    refine XS.pop X4.here hx rfl (hb hby d22_8) rfl rfl ?_
    refine XS.aloadN X4.here hx rfl (hb hby d22_9) rfl rfl ?_
    refine XS.iloadN X4.here hx rfl (hb hby d22_10) rfl ?_
    refine st12 _ ?_
    jvm_step X12.here [X12.here.top, hx, (hb hby d22_14), X12.method', Bd.returns, Value.isRef, FieldType.isReference]
    first | (intro acts; rw [hr _ acts rfl rfl rfl]) | rw [hr _ _ rfl rfl rfl]
    exact Steps.refl _
  · show Qrm22_1 Z a1 a6 k8 a9 a10 h0 n0 _ T12.heap _
    rw [e12]
    exact ⟨rfl, N12, rfl⟩
def Qrm20_2 (Z : State) (a1 : Addr) (a4 : Addr) (a12 : Addr) (k14 : ClassId) (a15 : Addr) (a16 : Addr) (p22 : Int32) (a27 : Addr) (k30 : ClassId) (p31 : Int32) (p32 : Int32) (h0 : Heap) (n0 : Nat) (v : Option Value) (h : Heap) (L : List Loc) : Prop := v = some .null ∧ Fr n0 L ∧ Keep h0 h [a1] ∧ Fld Z h a1 "com/example/runqueue/runqueue/Arguments" "next" "I" (.int 1) ∧ Fld Z h a1 "com/example/runqueue/runqueue/Arguments" "args" "Ljava/util/List;" (.ref a4) ∧ Exa Z h a1 "com/example/runqueue/runqueue/Arguments" ∧ Fld Z h a1 "com/example/runqueue/runqueue/Arguments" "option" "Ljava/lang/String;" .null ∧ Fld Z h a1 "com/example/runqueue/runqueue/Arguments" "attached" "Ljava/lang/String;" .null
set_option maxRecDepth 65536 in
set_option maxHeartbeats 40000000 in
theorem rm20_2 (l : Launch) (Z : State) (a0 : Array Value) (hw : ∀ d ∈ tables_1, d.before a0 Z = true) (ws : List Jvm.Cond) (a1 : Addr) (a4 : Addr) (a12 : Addr) (k14 : ClassId) (a15 : Addr) (a16 : Addr) (p22 : Int32) (a27 : Addr) (k30 : ClassId) (p31 : Int32) (p32 : Int32) (h0 : Heap) (n0 : Nat) (O0 : Old Z n0 h0) (F_2 : Fld Z h0 a1 "com/example/runqueue/runqueue/Arguments" "next" "I" (.int 0)) (F_5 : Fld Z h0 a1 "com/example/runqueue/runqueue/Arguments" "args" "Ljava/util/List;" (.ref a4)) (E_7 : Exa Z h0 a4 "java/util/ArrayList") (F_8 : Fld Z h0 a4 "java/util/ArrayList" "size" "I" (.int 2)) (F_13 : Fld Z h0 a4 "java/util/ArrayList" "elementData" "[Ljava/lang/Object;" (.ref a12)) (V_17 : Arv Z h0 a12 k14 (.object "java/lang/Object") (10 : Int32) [(.ref a15), (.ref a16)] .null) (E_19 : Exa Z h0 a15 "java/lang/String") (g_a15 : n0 ≤ a15) (S_23 : Sta Z Z.heap "java/lang/String" "COMPACT_STRINGS" "Z" (.int p22)) (hc24 : ¬ (p22 = (0 : Int32))) (F_25 : Fld Z h0 a15 "java/lang/String" "coder" "B" (.int 0)) (F_28 : Fld Z h0 a15 "java/lang/String" "value" "[B" (.ref a27)) (V_33 : Arv Z h0 a27 k30 .byte (2 : Int32) [(.int p31), (.int p32)] (.int 0)) (hc35 : p31 = (45 : Int32)) (hc36 : p32 = (45 : Int32)) (E_41 : Exa Z h0 a1 "com/example/runqueue/runqueue/Arguments") (g_a1 : n0 ≤ a1) (F_44 : Fld Z h0 a1 "com/example/runqueue/runqueue/Arguments" "option" "Ljava/lang/String;" .null) (F_45 : Fld Z h0 a1 "com/example/runqueue/runqueue/Arguments" "attached" "Ljava/lang/String;" .null) :
    MetFree l (⟨"com/example/runqueue/runqueue/Arguments", "nextOption", "()Ljava/lang/String;"⟩ : MethodName) (head1 (Jvm.Cond.code (⟨"com/example/runqueue/runqueue/Arguments", "nextOption", "()Ljava/lang/String;"⟩ : MethodName) prog_1_method_2_code 3 (some (.object "java/lang/String")) :: ws) (⟨3, 2, 12, 40⟩ : Room)) (fun a U => a = #[(.ref a1)] ∧ Z.Warmed39 U.vm ∧ U.heap = h0 ∧ own_CH Z own_EL n0 U.vm h0) (fun _ _ _ _ _ => True) (fun _ U o U' => ∃ v L, o = .returned v ∧ Qrm20_2 Z a1 a4 a12 k14 a15 a16 p22 a27 k30 p31 p32 h0 n0 v U'.heap L ∧ ReturnedEndW U o U' L (⟨3, 2, 12, 40⟩ : Room).cells (⟨3, 2, 12, 40⟩ : Room).slots) := by
  refine MetFree.of_bodySF (plainFor_of_name pn_21) hisR ?_
  intro p e s m args below meth c s₁ Bd hml0 hP hK
  obtain ⟨rfl, hZ, hh, hCH⟩ := hP
  have hx := Bd.exec
  have hby := Bd.bytes
  have hml : c.maxLocals = 3 := hml0
  have hown : s.vm.findClass "com/example/runqueue/runqueue/Arguments" = some m.cls := findClass_of_methodNamed Bd.named
  have X0 : Stand p l e (⟨3, 2, 12, 40⟩ : Room) s m #[(.ref a1)] below meth c s₁ [] 0 0 := Stand.of_body Bd
  have e0 : s₁.heap = h0 := by rw [← hh, Bd.state]; rfl
  have N0 := Fr.nil n0
  have pre0 : ∀ t, Steps p.tables e below (s₁.setTop (mkF m 0 #[vr a1, .unset, .unset] [])) t → Steps p.tables e below (s₁.setTop (entryFrame m #[(.ref a1)] 3)) t := fun t k => castTop (ef_20_R m a1) k
  have CS0 : own_CS Z own_EL n0 h0.size s.vm h0 := own_CS.start hCH
  have hS0 : s.Since s.vm 0 := (State.WarmedH.refl s).since 0
  obtain ⟨T3, X3, e3, st3⟩ := getF X0 hx hZ hown (host := "") (Or.inl (W hw 113 rfl)) Via.refl e0 F_2 (g := (mkF m 1 #[vr a1, .unset, .unset] [(.ref a1)])) rfl rfl (hb hby d20_1)
  obtain ⟨T6, X6, e6, st6⟩ := getF X3 hx hZ hown (host := "") (Or.inl (W hw 106 rfl)) Via.refl e3 F_5 (g := (mkF m 5 #[vr a1, .unset, .unset] [(.ref a1), (.int 0)])) rfl rfl (hb hby d20_5)
  obtain ⟨_, T9, L9, X9, hQ9, st9⟩ := cF X6 hx hZ hown (W hw 115 rfl) (W hw 116 rfl) (mvT hZ (W hw 117 rfl)) (W hw 118 rfl) (W hw 119 rfl) (W hw 120 rfl) (W hw 121 rfl) (W hw 122 rfl) (W hw 123 rfl) (W hw 46 rfl) (by decide) (rm21_1 l Z a0 hw [] a4 h0 n0 O0 F_8) e6 E_7 #[vr a1, .unset, .unset] [(.int 0)] (by rw [hml]; rfl) (hb hby d20_8) pd_23 rfl (W := 1) (Nat.le_of_eq rfl) (by decide) (by decide) (by decide) (by decide)
  obtain ⟨rfl, Nq9, e9⟩ := hQ9
  have N9 := Fr.app N0 Nq9
  obtain ⟨T10, X10, e10, st10⟩ := getF X9 hx hZ hown (host := "") (Or.inl (W hw 106 rfl)) Via.refl e9 F_5 (g := (mkF m 19 #[vr a1, .unset, .unset] [(.ref a1)])) rfl rfl (hb hby d20_19)
  obtain ⟨T11, X11, e11, st11⟩ := getF X10 hx hZ hown (host := "") (Or.inl (W hw 113 rfl)) Via.refl e10 F_2 (g := (mkF m 23 #[vr a1, .unset, .unset] [(.ref a1), (.ref a4)])) rfl rfl (hb hby d20_23)
  obtain ⟨_, T18, L18, X18, hQ18, st18⟩ := cF X11 hx hZ hown (W hw 124 rfl) (W hw 125 rfl) (mvT hZ (W hw 126 rfl)) (W hw 127 rfl) (W hw 128 rfl) (W hw 129 rfl) (W hw 130 rfl) (W hw 122 rfl) (W hw 131 rfl) (W hw 46 rfl) (by decide) (rm22_1 l Z a0 hw [] a4 a12 k14 a15 a16 h0 n0 O0 F_8 E_7 F_13 V_17) e11 E_7 #[vr a1, .unset, .unset] [] (by rw [hml]; rfl) (hb hby d20_26) pd_27 rfl (W := 0) (Nat.le_of_eq rfl) (by decide) (by decide) (by decide) (by decide)
  obtain ⟨rfl, Nq18, e18⟩ := hQ18
  have N18 := Fr.app N9 Nq18
  obtain ⟨T20, X20, e20, st20⟩ := castY X18 hx hZ hown (W hw 145 rfl) e18 (Ins.self E_19) (g := (mkF m 31 #[vr a1, .unset, .unset] [(.ref a15)])) rfl rfl (hb hby d20_31)
  obtain ⟨b21, T21, h21, k21, bb21, kk21, X21, e21, E21, hS21, hk21, hZ21, hown21, La21, Lc21, Lv21, Lb21, -, -, hC21, -, hne21, st21⟩ := ldcCH (s := s) (vm0 := s.vm) X20 hx hZ hown (W hw 146 rfl) (own_wS hw) e20 hS0 (Nat.zero_le _) (own_EW hw) (List.mem_of_getElem? (i := 0) rfl) CS0.1 (vs := [(.int 45), (.int 45)]) (z := (2 : Int32)) own_lt0 (by decide) (by decide) (g := (mkF m 36 #[vr a1, vr a15, .unset] [(.ref a15)])) rfl (hb hby d20_36) (n := 8) (by decide) (by decide) (by decide) (by decide)
  have CS21 := CS0.ldc hC21 (Keep.refl h0 [a1]).1
  have K21 := (Keep.refl h0 [a1]).ext E21
  have O21 := O0.ext E21
  have f26 := (F_25.ext E21)
  have f29 := (F_28.ext E21)
  have f34 := (V_33.ext E21)
  have f38 := (E_19.ext E21)
  obtain ⟨_, T37, L37, X37, hQ37, st37⟩ := cV X21 hx hZ21 hown21 (W hw 149 rfl) (W hw 150 rfl) (notFace_of_selects (args := #[]) (mvT hZ21 (W hw 152 rfl))) (W hw 152 rfl) (W hw 151 rfl) (W hw 153 rfl) (W hw 2 rfl) (by decide) (rm26 l Z a0 hw [] a15 b21 p22 a27 bb21 k30 p31 p32 kk21 h21 n0 O21 (hne21 a15 (CS21.2 a15 g_a15 E_19.lt)).1 La21 S_23 hc24 f26 Lc21 f29 Lv21 f34 Lb21 hc35 hc36) e21 f38 #[vr a1, vr a15, .unset] [] (by rw [hml]; rfl) (hb hby d20_38) pd_20 rfl (W := 0) (Nat.le_of_eq rfl) (by decide) (by decide) (by decide) (by decide)
  obtain ⟨rfl, Nq37, e37⟩ := hQ37
  have N37 := Fr.app N18 Nq37
  have f39 := (F_2.ext E21)
  obtain ⟨T40, X40, e40, st40⟩ := getF X37 hx hZ21 hown21 (host := "") (Or.inl (W hw 113 rfl)) Via.refl e37 f39 (g := (mkF m 46 #[vr a1, vr a15, .unset] [(.ref a1), (.ref a1)])) rfl rfl (hb hby d20_46)
  have f42 := (E_41.ext E21)
  obtain ⟨T43, h43, X43, e43, W43, st43⟩ := putF X40 hx hZ21 hown21 (host := "") (Or.inl (W hw 113 rfl)) Via.refl e40 f39 f42 (Or.inl (W hw 114 rfl)) (W hw 100 rfl) (ty := .int) (by decide) rfl rfl (g := (mkF m 51 #[vr a1, vr a15, .unset] [(.int 1), (.ref a1)])) rfl rfl (hb hby d20_51)
  have K43 := K21.wr W43 (Or.inl (List.mem_of_getElem? (i := 0) rfl))
  have N43 := Fr.snoc X43 N37 g_a1
  have Fw43 := f39.same W43
  have f46 := ((F_5.ext E21).other W43 (Or.inr (slot_ne (Or.inr (W hw 107 rfl)) (Or.inl (W hw 114 rfl)) (by decide) (t := (.object "java/util/List")) (t' := .int) (by decide) (by decide))))
  have f47 := (f42.wr W43)
  have f48 := ((F_44.ext E21).other W43 (Or.inr (slot_ne (Or.inl (W hw 211 rfl)) (Or.inl (W hw 114 rfl)) (by decide) (t := (.object "java/lang/String")) (t' := .int) (by decide) (by decide))))
  have f49 := ((F_45.ext E21).other W43 (Or.inr (slot_ne (Or.inl (W hw 213 rfl)) (Or.inl (W hw 114 rfl)) (by decide) (t := (.object "java/lang/String")) (t' := .int) (by decide) (by decide))))
  obtain ⟨fs, hr, hrun, hended, hREW⟩ := X43.leaveW (s := s) hS21 (by rw [e43]; exact (Nat.le_trans hk21 (Keep.of_wr W43).1)) (v := some .null) (fun h => by rw [Bd.returns] at h; cases h)
  refine ⟨_, _, pre0 _ ?_, hrun, hended, _, _, rfl, ?_, hREW.1, hREW.2.1, hREW.2.2.1, hREW.2.2.2.mono (by decide) (by decide)⟩
  · show Steps p.tables e below (s₁.setTop (mkF m 0 #[vr a1, .unset, .unset] [])) _
    refine XS.aloadN X0.here hx rfl (hb hby d20_0) rfl rfl ?_
    refine st3 _ ?_
    refine XS.aloadN X3.here hx rfl (hb hby d20_4) rfl rfl ?_
    refine st6 _ ?_
    refine st9 _ ?_
    refine XS.icmpYes X9.here hx rfl (pc0 := 13) (pc' := 18) rfl (hb hby d20_13) rfl (feq ((by decide) : ¬ ((0 : Int32) = (2 : Int32)))).2 (by decide) (by decide) ?_
    refine XS.aloadN X9.here hx rfl (hb hby d20_18) rfl rfl ?_
    refine st10 _ ?_
    refine XS.aloadN X10.here hx rfl (hb hby d20_22) rfl rfl ?_
    refine st11 _ ?_
    show Steps p.tables e below (T11.setTop (mkF m 26 #[vr a1, .unset, .unset] [(.int 0), (.ref a4)])) _
    refine st18 _ ?_
    refine st20 _ ?_
    refine XS.astoreN X20.here hx rfl (hb hby d20_34) rfl rfl (l' := #[vr a1, vr a15, .unset]) rfl ?_
    refine XS.aloadN X20.here hx rfl (hb hby d20_35) rfl rfl ?_
    refine st21 _ ?_
    refine st37 _ ?_
    refine XS.ifNo X37.here hx rfl (hb hby d20_41) rfl ((if0 _ _).trans (feq ((by decide) : ¬ ((1 : Int32) = (0 : Int32)))).1) ?_
    refine XS.aloadN X37.here hx rfl (hb hby d20_44) rfl rfl ?_
    refine XS.dup X37.here hx rfl (hb hby d20_45) rfl rfl ?_
    refine st40 _ ?_
    show Steps p.tables e below (T40.setTop (mkF m 49 #[vr a1, vr a15, .unset] [(.int 0), (.ref a1)])) _
    refine XS.iconst X40.here hx rfl (hb hby d20_49) ?_
    refine XS.iadd X40.here hx rfl (hb hby d20_50) rfl ?_
    show Steps p.tables e below (T40.setTop (mkF m 51 #[vr a1, vr a15, .unset] [(.int ((0 : Int32) + (1 : Int32))), (.ref a1)])) _
    rw [show ((0 : Int32) + (1 : Int32)) = (1 : Int32) from by decide]
    refine st43 _ ?_
    refine XS.aconstNull X43.here hx rfl (hb hby d20_54) ?_
    jvm_step X43.here [X43.here.top, hx, (hb hby d20_55), X43.method', Bd.returns, Value.isRef, FieldType.isReference]
    first | (intro acts; rw [hr _ acts rfl rfl rfl]) | rw [hr _ _ rfl rfl rfl]
    exact Steps.refl _
  · show Qrm20_2 Z a1 a4 a12 k14 a15 a16 p22 a27 k30 p31 p32 h0 n0 _ T43.heap _
    rw [e43]
    exact ⟨rfl, N43, K43, Fw43, f46, f47, f48, f49⟩
theorem d41_66 : decode prog_1_method_10_code 66 = .ok (.aload_n 0, 1) := by decide +kernel
theorem d41_67 : decode prog_1_method_10_code 67 = .ok (.getfield 7, 3) := by decide +kernel
theorem d41_70 : decode prog_1_method_10_code 70 = .ok (.aload_n 0, 1) := by decide +kernel
theorem d41_71 : decode prog_1_method_10_code 71 = .ok (.getfield 13, 3) := by decide +kernel
theorem d41_74 : decode prog_1_method_10_code 74 = .ok (.invokeinterface 23 2, 5) := by decide +kernel
def Qrm24_2 (Z : State)  (h0 : Heap) (n0 : Nat) (v : Option Value) (h : Heap) (L : List Loc) : Prop := v = some (.int 1) ∧ Fr n0 L ∧ h = h0
set_option maxRecDepth 65536 in
set_option maxHeartbeats 40000000 in
theorem rm24_2 (l : Launch) (Z : State) (a0 : Array Value) (hw : ∀ d ∈ tables_1, d.before a0 Z = true) (ws : List Jvm.Cond)  (h0 : Heap) (n0 : Nat) (O0 : Old Z n0 h0) :
    MF l Z h0 (⟨"jdk/internal/util/Preconditions", "checkIndex", "(IILjava/util/function/BiFunction;)I"⟩ : MethodName) jdk_41_method_11_code 3 (some .int) ws (⟨0, 0, 0, 0⟩ : Room) #[(.int 1), (.int 2), .null] (Qrm24_2 Z  h0 n0) := by
  refine MetFree.of_bodySF (plainFor_of_name pn_24) hisR ?_
  intro p e s m args below meth c s₁ Bd hml0 hP hK
  obtain ⟨rfl, hZ, hh⟩ := hP
  have hx := Bd.exec
  have hby := Bd.bytes
  have X0 : Stand p l e (⟨0, 0, 0, 0⟩ : Room) s m #[(.int 1), (.int 2), .null] below meth c s₁ [] 0 0 := Stand.of_body Bd
  have e0 : s₁.heap = h0 := by rw [← hh, Bd.state]; rfl
  have N0 := Fr.nil n0
  have pre0 : ∀ t, Steps p.tables e below (s₁.setTop (mkF m 0 #[vi 1, vi 2, .val .null] [])) t → Steps p.tables e below (s₁.setTop (entryFrame m #[(.int 1), (.int 2), .null] 3)) t := fun t k => castTop (ef_24_IIn m (1 : Int32) (2 : Int32)) k
  obtain ⟨fs, hr, hrun, hended, hW, hsame⟩ := X0.leave (v := some (.int 1)) (fun h => by rw [Bd.returns] at h; cases h)
  refine ⟨_, _, pre0 _ ?_, hrun, hended, _, _, rfl, ?_, ⟨_, rfl⟩, hW, hsame.mono (by decide) (by decide)⟩
  · show Steps p.tables e below (s₁.setTop (mkF m 0 #[vi 1, vi 2, .val .null] [])) _
    refine XS.iloadN X0.here hx rfl (hb hby d24_0) rfl ?_
    refine XS.ifNo X0.here hx rfl (hb hby d24_1) rfl ((if0 _ _).trans (flt ((by decide) : ¬ ((1 : Int32) < (0 : Int32)))).1) ?_
    refine XS.iloadN X0.here hx rfl (hb hby d24_4) rfl ?_
    refine XS.iloadN X0.here hx rfl (hb hby d24_5) rfl ?_
    refine XS.icmpYes X0.here hx rfl (pc0 := 6) (pc' := 16) rfl (hb hby d24_6) rfl (tlt ((by decide) : (1 : Int32) < (2 : Int32))).1 (by decide) (by decide) ?_
    refine XS.iloadN X0.here hx rfl (hb hby d24_16) rfl ?_
    exact retI X0 hx Bd.returns (hb hby d24_17) hr
  · show Qrm24_2 Z  h0 n0 _ s₁.heap _
    rw [e0]
    exact ⟨rfl, N0, rfl⟩
def Qrm23_2 (Z : State)  (h0 : Heap) (n0 : Nat) (v : Option Value) (h : Heap) (L : List Loc) : Prop := v = some (.int 1) ∧ Fr n0 L ∧ h = h0
set_option maxRecDepth 65536 in
set_option maxHeartbeats 40000000 in
theorem rm23_2 (l : Launch) (Z : State) (a0 : Array Value) (hw : ∀ d ∈ tables_1, d.before a0 Z = true) (ws : List Jvm.Cond)  (h0 : Heap) (n0 : Nat) (O0 : Old Z n0 h0) :
    MF l Z h0 (⟨"java/util/Objects", "checkIndex", "(II)I"⟩ : MethodName) jdk_31_method_17_code 2 (some .int) ws (⟨1, 0, 0, 14⟩ : Room) #[(.int 1), (.int 2)] (Qrm23_2 Z  h0 n0) := by
  refine MetFree.of_bodySF (plainFor_of_name pn_26) hisR ?_
  intro p e s m args below meth c s₁ Bd hml0 hP hK
  obtain ⟨rfl, hZ, hh⟩ := hP
  have hx := Bd.exec
  have hby := Bd.bytes
  have hml : c.maxLocals = 2 := hml0
  have hown : s.vm.findClass "java/util/Objects" = some m.cls := findClass_of_methodNamed Bd.named
  have X0 : Stand p l e (⟨1, 0, 0, 14⟩ : Room) s m #[(.int 1), (.int 2)] below meth c s₁ [] 0 0 := Stand.of_body Bd
  have e0 : s₁.heap = h0 := by rw [← hh, Bd.state]; rfl
  have N0 := Fr.nil n0
  have pre0 : ∀ t, Steps p.tables e below (s₁.setTop (mkF m 0 #[vi 1, vi 2] [])) t → Steps p.tables e below (s₁.setTop (entryFrame m #[(.int 1), (.int 2)] 2)) t := fun t k => castTop (ef_23_II m (1 : Int32) (2 : Int32)) k
  obtain ⟨_, T1, L1, X1, hQ1, st1⟩ := cS X0 hx hZ hown (W hw 136 rfl) (W hw 137 rfl) (W hw 138 rfl) (W hw 139 rfl) (by decide) (rm24_2 l Z a0 hw []  h0 n0 O0 ) e0 #[vi 1, vi 2] [] (by rw [hml]; rfl) (hb hby d23_3) pd_25 rfl (W := 0) (Nat.le_of_eq rfl) (by decide) (by decide) (by decide) (by decide)
  obtain ⟨rfl, Nq1, e1⟩ := hQ1
  have N1 := Fr.app N0 Nq1
  obtain ⟨fs, hr, hrun, hended, hW, hsame⟩ := X1.leave (v := some (.int 1)) (fun h => by rw [Bd.returns] at h; cases h)
  refine ⟨_, _, pre0 _ ?_, hrun, hended, _, _, rfl, ?_, ⟨_, rfl⟩, hW, hsame.mono (by decide) (by decide)⟩
  · show Steps p.tables e below (s₁.setTop (mkF m 0 #[vi 1, vi 2] [])) _
    refine XS.iloadN X0.here hx rfl (hb hby d23_0) rfl ?_
    refine XS.iloadN X0.here hx rfl (hb hby d23_1) rfl ?_
    refine XS.aconstNull X0.here hx rfl (hb hby d23_2) ?_
    refine st1 _ ?_
    exact retI X1 hx Bd.returns (hb hby d23_6) hr
  · show Qrm23_2 Z  h0 n0 _ T1.heap _
    rw [e1]
    exact ⟨rfl, N1, rfl⟩
def Qrm25_2 (Z : State) (a1 : Addr) (a2 : Addr) (k5 : ClassId) (a6 : Addr) (a7 : Addr) (h0 : Heap) (n0 : Nat) (v : Option Value) (h : Heap) (L : List Loc) : Prop := v = some (.ref a7) ∧ Fr n0 L ∧ h = h0
set_option maxRecDepth 65536 in
set_option maxHeartbeats 40000000 in
theorem rm25_2 (l : Launch) (Z : State) (a0 : Array Value) (hw : ∀ d ∈ tables_1, d.before a0 Z = true) (ws : List Jvm.Cond) (a1 : Addr) (a2 : Addr) (k5 : ClassId) (a6 : Addr) (a7 : Addr) (h0 : Heap) (n0 : Nat) (O0 : Old Z n0 h0) (F_3 : Fld Z h0 a1 "java/util/ArrayList" "elementData" "[Ljava/lang/Object;" (.ref a2)) (V_8 : Arv Z h0 a2 k5 (.object "java/lang/Object") (10 : Int32) [(.ref a6), (.ref a7)] .null) :
    MF l Z h0 (⟨"java/util/ArrayList", "elementData", "(I)Ljava/lang/Object;"⟩ : MethodName) jdk_38_method_18_code 2 (some (.object "java/lang/Object")) ws (⟨0, 0, 0, 0⟩ : Room) #[(.ref a1), (.int 1)] (Qrm25_2 Z a1 a2 k5 a6 a7 h0 n0) := by
  refine MetFree.of_bodySF (plainFor_of_name pn_15) hisR ?_
  intro p e s m args below meth c s₁ Bd hml0 hP hK
  obtain ⟨rfl, hZ, hh⟩ := hP
  have hx := Bd.exec
  have hby := Bd.bytes
  have hown : s.vm.findClass "java/util/ArrayList" = some m.cls := findClass_of_methodNamed Bd.named
  have X0 : Stand p l e (⟨0, 0, 0, 0⟩ : Room) s m #[(.ref a1), (.int 1)] below meth c s₁ [] 0 0 := Stand.of_body Bd
  have e0 : s₁.heap = h0 := by rw [← hh, Bd.state]; rfl
  have N0 := Fr.nil n0
  have pre0 : ∀ t, Steps p.tables e below (s₁.setTop (mkF m 0 #[vr a1, vi 1] [])) t → Steps p.tables e below (s₁.setTop (entryFrame m #[(.ref a1), (.int 1)] 2)) t := fun t k => castTop (ef_25_RI m a1 (1 : Int32)) k
  obtain ⟨T4, X4, e4, st4⟩ := getF X0 hx hZ hown (host := "") (Or.inl (W hw 66 rfl)) Via.refl e0 F_3 (g := (mkF m 1 #[vr a1, vi 1] [(.ref a1)])) rfl rfl (hb hby d25_1)
  obtain ⟨cl9, Ar9, q9, S9, M9, Hs9, G9⟩ := id V_8
  have hin9 : ¬ ((1 : Int32) < 0 ∨ cl9.slots.size ≤ ((1 : Int32)).toNatClampNeg) := inb_of S9 ⟨by decide, by decide⟩
  have hat9 : cl9.slots[((1 : Int32)).toNatClampNeg]? = some (.ref a7) := Has.at Hs9 hin9 rfl
  obtain ⟨fs, hr, hrun, hended, hW, hsame⟩ := X4.leave (v := some (.ref a7)) (fun h => by rw [Bd.returns] at h; cases h)
  refine ⟨_, _, pre0 _ ?_, hrun, hended, _, _, rfl, ?_, ⟨_, rfl⟩, hW, hsame.mono (by decide) (by decide)⟩
  · show Steps p.tables e below (s₁.setTop (mkF m 0 #[vr a1, vi 1] [])) _
    refine XS.aloadN X0.here hx rfl (hb hby d25_0) rfl rfl ?_
    refine st4 _ ?_
    refine XS.iloadN X4.here hx rfl (hb hby d25_4) rfl ?_
    refine X4.aaload hx (j := (1 : Int32)) (v := (.ref a7)) (by rw [e4]; exact Ar9.1) (State.isArrayOf_alike hZ.alike Ar9.2.1) rfl Ar9.2.2 hin9 hat9 (g := (mkF m 5 #[vr a1, vi 1] [(.int 1), (.ref a2)])) rfl rfl (hb hby d25_5) _ ?_
    jvm_step X4.here [X4.here.top, hx, (hb hby d25_6), X4.method', Bd.returns, Value.isRef, FieldType.isReference]
    first | (intro acts; rw [hr _ acts rfl rfl rfl]) | rw [hr _ _ rfl rfl rfl]
    exact Steps.refl _
  · show Qrm25_2 Z a1 a2 k5 a6 a7 h0 n0 _ T4.heap _
    rw [e4]
    exact ⟨rfl, N0, rfl⟩
def Qrm22_2 (Z : State) (a1 : Addr) (a6 : Addr) (k8 : ClassId) (a9 : Addr) (a10 : Addr) (h0 : Heap) (n0 : Nat) (v : Option Value) (h : Heap) (L : List Loc) : Prop := v = some (.ref a10) ∧ Fr n0 L ∧ h = h0
set_option maxRecDepth 65536 in
set_option maxHeartbeats 40000000 in
theorem rm22_2 (l : Launch) (Z : State) (a0 : Array Value) (hw : ∀ d ∈ tables_1, d.before a0 Z = true) (ws : List Jvm.Cond) (a1 : Addr) (a6 : Addr) (k8 : ClassId) (a9 : Addr) (a10 : Addr) (h0 : Heap) (n0 : Nat) (O0 : Old Z n0 h0) (F_2 : Fld Z h0 a1 "java/util/ArrayList" "size" "I" (.int 2)) (E_5 : Exa Z h0 a1 "java/util/ArrayList") (F_7 : Fld Z h0 a1 "java/util/ArrayList" "elementData" "[Ljava/lang/Object;" (.ref a6)) (V_11 : Arv Z h0 a6 k8 (.object "java/lang/Object") (10 : Int32) [(.ref a9), (.ref a10)] .null) :
    MF l Z h0 (⟨"java/util/ArrayList", "get", "(I)Ljava/lang/Object;"⟩ : MethodName) jdk_38_method_20_code 2 (some (.object "java/lang/Object")) ws (⟨2, 0, 0, 27⟩ : Room) #[(.ref a1), (.int 1)] (Qrm22_2 Z a1 a6 k8 a9 a10 h0 n0) := by
  refine MetFree.of_bodySF (plainFor_of_name pn_15) hisR ?_
  intro p e s m args below meth c s₁ Bd hml0 hP hK
  obtain ⟨rfl, hZ, hh⟩ := hP
  have hx := Bd.exec
  have hby := Bd.bytes
  have hml : c.maxLocals = 2 := hml0
  have hown : s.vm.findClass "java/util/ArrayList" = some m.cls := findClass_of_methodNamed Bd.named
  have X0 : Stand p l e (⟨2, 0, 0, 27⟩ : Room) s m #[(.ref a1), (.int 1)] below meth c s₁ [] 0 0 := Stand.of_body Bd
  have e0 : s₁.heap = h0 := by rw [← hh, Bd.state]; rfl
  have N0 := Fr.nil n0
  have pre0 : ∀ t, Steps p.tables e below (s₁.setTop (mkF m 0 #[vr a1, vi 1] [])) t → Steps p.tables e below (s₁.setTop (entryFrame m #[(.ref a1), (.int 1)] 2)) t := fun t k => castTop (ef_22_RI m a1 (1 : Int32)) k
  obtain ⟨T3, X3, e3, st3⟩ := getF X0 hx hZ hown (host := "") (Or.inl (W hw 75 rfl)) Via.refl e0 F_2 (g := (mkF m 2 #[vr a1, vi 1] [(.ref a1), (.int 1)])) rfl rfl (hb hby d22_2)
  obtain ⟨_, T4, L4, X4, hQ4, st4⟩ := cS X3 hx hZ hown (W hw 132 rfl) (W hw 133 rfl) (W hw 134 rfl) (W hw 135 rfl) (by decide) (rm23_2 l Z a0 hw []  h0 n0 O0 ) e3 #[vr a1, vi 1] [] (by rw [hml]; rfl) (hb hby d22_5) pd_16 rfl (W := 0) (Nat.le_of_eq rfl) (by decide) (by decide) (by decide) (by decide)
  obtain ⟨rfl, Nq4, e4⟩ := hQ4
  have N4 := Fr.app N0 Nq4
  obtain ⟨_, T12, L12, X12, hQ12, st12⟩ := cV X4 hx hZ hown (W hw 140 rfl) (W hw 141 rfl) (notFace_of_selects (args := #[]) (mvT hZ (W hw 143 rfl))) (W hw 143 rfl) (W hw 142 rfl) (W hw 144 rfl) (W hw 46 rfl) (by decide) (rm25_2 l Z a0 hw [] a1 a6 k8 a9 a10 h0 n0 O0 F_7 V_11) e4 E_5 #[vr a1, vi 1] [] (by rw [hml]; rfl) (hb hby d22_11) pd_27 rfl (W := 0) (Nat.le_of_eq rfl) (by decide) (by decide) (by decide) (by decide)
  obtain ⟨rfl, Nq12, e12⟩ := hQ12
  have N12 := Fr.app N4 Nq12
  obtain ⟨fs, hr, hrun, hended, hW, hsame⟩ := X12.leave (v := some (.ref a10)) (fun h => by rw [Bd.returns] at h; cases h)
  refine ⟨_, _, pre0 _ ?_, hrun, hended, _, _, rfl, ?_, ⟨_, rfl⟩, hW, hsame.mono (by decide) (by decide)⟩
  · show Steps p.tables e below (s₁.setTop (mkF m 0 #[vr a1, vi 1] [])) _
    refine XS.iloadN X0.here hx rfl (hb hby d22_0) rfl ?_
    refine XS.aloadN X0.here hx rfl (hb hby d22_1) rfl rfl ?_
    refine st3 _ ?_
    refine st4 _ ?_
    refine XS.pop X4.here hx rfl (hb hby d22_8) rfl rfl ?_
    refine XS.aloadN X4.here hx rfl (hb hby d22_9) rfl rfl ?_
    refine XS.iloadN X4.here hx rfl (hb hby d22_10) rfl ?_
    refine st12 _ ?_
    jvm_step X12.here [X12.here.top, hx, (hb hby d22_14), X12.method', Bd.returns, Value.isRef, FieldType.isReference]
    first | (intro acts; rw [hr _ acts rfl rfl rfl]) | rw [hr _ _ rfl rfl rfl]
    exact Steps.refl _
  · show Qrm22_2 Z a1 a6 k8 a9 a10 h0 n0 _ T12.heap _
    rw [e12]
    exact ⟨rfl, N12, rfl⟩
theorem d41_79 : decode prog_1_method_10_code 79 = .ok (.checkcast 27, 3) := by decide +kernel
theorem d41_82 : decode prog_1_method_10_code 82 = .ok (.goto 4, 3) := by decide +kernel
def Qrm41_1 (Z : State) (a1 : Addr) (a2 : Addr) (a3 : Addr) (a16 : Addr) (k18 : ClassId) (a19 : Addr) (a20 : Addr) (h0 : Heap) (n0 : Nat) (v : Option Value) (h : Heap) (L : List Loc) : Prop := v = some (.ref a20) ∧ Fr n0 L ∧ h = h0
set_option maxRecDepth 65536 in
set_option maxHeartbeats 40000000 in
theorem rm41_1 (l : Launch) (Z : State) (a0 : Array Value) (hw : ∀ d ∈ tables_1, d.before a0 Z = true) (ws : List Jvm.Cond) (a1 : Addr) (a2 : Addr) (a3 : Addr) (a16 : Addr) (k18 : ClassId) (a19 : Addr) (a20 : Addr) (h0 : Heap) (n0 : Nat) (O0 : Old Z n0 h0) (F_4 : Fld Z h0 a1 "com/example/runqueue/runqueue/Arguments" "args" "Ljava/util/List;" (.ref a3)) (E_6 : Exa Z h0 a3 "java/util/ArrayList") (F_7 : Fld Z h0 a3 "java/util/ArrayList" "size" "I" (.int 2)) (F_9 : Fld Z h0 a1 "com/example/runqueue/runqueue/Arguments" "next" "I" (.int 1)) (F_17 : Fld Z h0 a3 "java/util/ArrayList" "elementData" "[Ljava/lang/Object;" (.ref a16)) (V_21 : Arv Z h0 a16 k18 (.object "java/lang/Object") (10 : Int32) [(.ref a19), (.ref a20)] .null) (E_23 : Exa Z h0 a20 "java/lang/String") :
    MF l Z h0 (⟨"com/example/runqueue/runqueue/Arguments", "lastOperand", "(Ljava/lang/String;)Ljava/lang/String;"⟩ : MethodName) prog_1_method_10_code 2 (some (.object "java/lang/String")) ws (⟨3, 0, 0, 40⟩ : Room) #[(.ref a1), (.ref a2)] (Qrm41_1 Z a1 a2 a3 a16 k18 a19 a20 h0 n0) := by
  refine MetFree.of_bodySF (plainFor_of_name pn_21) hisR ?_
  intro p e s m args below meth c s₁ Bd hml0 hP hK
  obtain ⟨rfl, hZ, hh⟩ := hP
  have hx := Bd.exec
  have hby := Bd.bytes
  have hml : c.maxLocals = 2 := hml0
  have hown : s.vm.findClass "com/example/runqueue/runqueue/Arguments" = some m.cls := findClass_of_methodNamed Bd.named
  have X0 : Stand p l e (⟨3, 0, 0, 40⟩ : Room) s m #[(.ref a1), (.ref a2)] below meth c s₁ [] 0 0 := Stand.of_body Bd
  have e0 : s₁.heap = h0 := by rw [← hh, Bd.state]; rfl
  have N0 := Fr.nil n0
  have pre0 : ∀ t, Steps p.tables e below (s₁.setTop (mkF m 0 #[vr a1, vr a2] [])) t → Steps p.tables e below (s₁.setTop (entryFrame m #[(.ref a1), (.ref a2)] 2)) t := fun t k => castTop (ef_41_RR m a1 a2) k
  obtain ⟨T5, X5, e5, st5⟩ := getF X0 hx hZ hown (host := "") (Or.inl (W hw 106 rfl)) Via.refl e0 F_4 (g := (mkF m 1 #[vr a1, vr a2] [(.ref a1)])) rfl rfl (hb hby d41_1)
  obtain ⟨_, T8, L8, X8, hQ8, st8⟩ := cF X5 hx hZ hown (W hw 115 rfl) (W hw 116 rfl) (mvT hZ (W hw 117 rfl)) (W hw 118 rfl) (W hw 119 rfl) (W hw 120 rfl) (W hw 121 rfl) (W hw 122 rfl) (W hw 123 rfl) (W hw 46 rfl) (by decide) (rm21_1 l Z a0 hw [] a3 h0 n0 O0 F_7) e5 E_6 #[vr a1, vr a2] [] (by rw [hml]; rfl) (hb hby d41_4) pd_23 rfl (W := 0) (Nat.le_of_eq rfl) (by decide) (by decide) (by decide) (by decide)
  obtain ⟨rfl, Nq8, e8⟩ := hQ8
  have N8 := Fr.app N0 Nq8
  obtain ⟨T10, X10, e10, st10⟩ := getF X8 hx hZ hown (host := "") (Or.inl (W hw 113 rfl)) Via.refl e8 F_9 (g := (mkF m 10 #[vr a1, vr a2] [(.ref a1), (.int 2)])) rfl rfl (hb hby d41_10)
  obtain ⟨T11, X11, e11, st11⟩ := getF X10 hx hZ hown (host := "") (Or.inl (W hw 113 rfl)) Via.refl e10 F_9 (g := (mkF m 51 #[vr a1, vr a2] [(.ref a1)])) rfl rfl (hb hby d41_51)
  obtain ⟨T12, X12, e12, st12⟩ := getF X11 hx hZ hown (host := "") (Or.inl (W hw 106 rfl)) Via.refl e11 F_4 (g := (mkF m 55 #[vr a1, vr a2] [(.ref a1), (.int 1)])) rfl rfl (hb hby d41_55)
  obtain ⟨_, T13, L13, X13, hQ13, st13⟩ := cF X12 hx hZ hown (W hw 115 rfl) (W hw 116 rfl) (mvT hZ (W hw 117 rfl)) (W hw 118 rfl) (W hw 119 rfl) (W hw 120 rfl) (W hw 121 rfl) (W hw 122 rfl) (W hw 123 rfl) (W hw 46 rfl) (by decide) (rm21_1 l Z a0 hw [] a3 h0 n0 O0 F_7) e12 E_6 #[vr a1, vr a2] [(.int 1)] (by rw [hml]; rfl) (hb hby d41_58) pd_23 rfl (W := 1) (Nat.le_of_eq rfl) (by decide) (by decide) (by decide) (by decide)
  obtain ⟨rfl, Nq13, e13⟩ := hQ13
  have N13 := Fr.app N8 Nq13
  obtain ⟨T14, X14, e14, st14⟩ := getF X13 hx hZ hown (host := "") (Or.inl (W hw 106 rfl)) Via.refl e13 F_4 (g := (mkF m 67 #[vr a1, vr a2] [(.ref a1)])) rfl rfl (hb hby d41_67)
  obtain ⟨T15, X15, e15, st15⟩ := getF X14 hx hZ hown (host := "") (Or.inl (W hw 113 rfl)) Via.refl e14 F_9 (g := (mkF m 71 #[vr a1, vr a2] [(.ref a1), (.ref a3)])) rfl rfl (hb hby d41_71)
  obtain ⟨_, T22, L22, X22, hQ22, st22⟩ := cF X15 hx hZ hown (W hw 124 rfl) (W hw 125 rfl) (mvT hZ (W hw 126 rfl)) (W hw 127 rfl) (W hw 128 rfl) (W hw 129 rfl) (W hw 130 rfl) (W hw 122 rfl) (W hw 131 rfl) (W hw 46 rfl) (by decide) (rm22_2 l Z a0 hw [] a3 a16 k18 a19 a20 h0 n0 O0 F_7 E_6 F_17 V_21) e15 E_6 #[vr a1, vr a2] [] (by rw [hml]; rfl) (hb hby d41_74) pd_27 rfl (W := 0) (Nat.le_of_eq rfl) (by decide) (by decide) (by decide) (by decide)
  obtain ⟨rfl, Nq22, e22⟩ := hQ22
  have N22 := Fr.app N13 Nq22
  obtain ⟨T24, X24, e24, st24⟩ := castY X22 hx hZ hown (W hw 145 rfl) e22 (Ins.self E_23) (g := (mkF m 79 #[vr a1, vr a2] [(.ref a20)])) rfl rfl (hb hby d41_79)
  obtain ⟨fs, hr, hrun, hended, hW, hsame⟩ := X24.leave (v := some (.ref a20)) (fun h => by rw [Bd.returns] at h; cases h)
  refine ⟨_, _, pre0 _ ?_, hrun, hended, _, _, rfl, ?_, ⟨_, rfl⟩, hW, hsame.mono (by decide) (by decide)⟩
  · show Steps p.tables e below (s₁.setTop (mkF m 0 #[vr a1, vr a2] [])) _
    refine XS.aloadN X0.here hx rfl (hb hby d41_0) rfl rfl ?_
    refine st5 _ ?_
    refine st8 _ ?_
    refine XS.aloadN X8.here hx rfl (hb hby d41_9) rfl rfl ?_
    refine st10 _ ?_
    refine XS.isub X10.here hx rfl (hb hby d41_13) rfl ?_
    show Steps p.tables e below (T10.setTop (mkF m 14 #[vr a1, vr a2] [(.int ((2 : Int32) - (1 : Int32)))])) _
    rw [show ((2 : Int32) - (1 : Int32)) = (1 : Int32) from by decide]
    refine XS.iconst X10.here hx rfl (hb hby d41_14) ?_
    refine XS.icmpYes X10.here hx rfl (pc0 := 15) (pc' := 50) rfl (hb hby d41_15) rfl (flt ((by decide) : ¬ ((1 : Int32) < (1 : Int32)))).2.2.2 (by decide) (by decide) ?_
    refine XS.aloadN X10.here hx rfl (hb hby d41_50) rfl rfl ?_
    refine st11 _ ?_
    refine XS.aloadN X11.here hx rfl (hb hby d41_54) rfl rfl ?_
    refine st12 _ ?_
    refine st13 _ ?_
    refine XS.icmpNo X13.here hx rfl (hb hby d41_63) rfl (tlt ((by decide) : (1 : Int32) < (2 : Int32))).2.1 ?_
    refine XS.aloadN X13.here hx rfl (hb hby d41_66) rfl rfl ?_
    show Steps p.tables e below (T13.setTop (mkF m 67 #[vr a1, vr a2] [(.ref a1)])) _
    refine st14 _ ?_
    refine XS.aloadN X14.here hx rfl (hb hby d41_70) rfl rfl ?_
    refine st15 _ ?_
    refine st22 _ ?_
    refine st24 _ ?_
    refine XS.goto X24.here hx rfl (pc0 := 82) (pc' := 86) rfl (hb hby d41_82) (by decide) (by decide) ?_
    jvm_step X24.here [X24.here.top, hx, (hb hby d41_86), X24.method', Bd.returns, Value.isRef, FieldType.isReference]
    first | (intro acts; rw [hr _ acts rfl rfl rfl]) | rw [hr _ _ rfl rfl rfl]
    exact Steps.refl _
  · show Qrm41_1 Z a1 a2 a3 a16 k18 a19 a20 h0 n0 _ T24.heap _
    rw [e24]
    exact ⟨rfl, N22, rfl⟩
theorem d26_5 : decode jdk_42_method_66_code 5 = .ok (.iconst 1, 1) := by decide +kernel
theorem d26_6 : decode jdk_42_method_66_code 6 = .ok (.ireturn, 1) := by decide +kernel
def Qrm26_3 (Z : State) (a1 : Addr) (h0 : Heap) (n0 : Nat) (v : Option Value) (h : Heap) (L : List Loc) : Prop := v = some (.int 1) ∧ Fr n0 L ∧ h = h0
set_option maxRecDepth 65536 in
set_option maxHeartbeats 40000000 in
theorem rm26_3 (l : Launch) (Z : State) (a0 : Array Value) (hw : ∀ d ∈ tables_1, d.before a0 Z = true) (ws : List Jvm.Cond) (a1 : Addr) (h0 : Heap) (n0 : Nat) (O0 : Old Z n0 h0) :
    MF l Z h0 (⟨"java/lang/String", "equals", "(Ljava/lang/Object;)Z"⟩ : MethodName) jdk_42_method_66_code 3 (some .boolean) ws (⟨0, 0, 0, 0⟩ : Room) #[(.ref a1), (.ref a1)] (Qrm26_3 Z a1 h0 n0) := by
  refine MetFree.of_bodySF (plainFor_of_name pn_4) hisR ?_
  intro p e s m args below meth c s₁ Bd hml0 hP hK
  obtain ⟨rfl, hZ, hh⟩ := hP
  have hx := Bd.exec
  have hby := Bd.bytes
  have X0 : Stand p l e (⟨0, 0, 0, 0⟩ : Room) s m #[(.ref a1), (.ref a1)] below meth c s₁ [] 0 0 := Stand.of_body Bd
  have e0 : s₁.heap = h0 := by rw [← hh, Bd.state]; rfl
  have N0 := Fr.nil n0
  have pre0 : ∀ t, Steps p.tables e below (s₁.setTop (mkF m 0 #[vr a1, vr a1, .unset] [])) t → Steps p.tables e below (s₁.setTop (entryFrame m #[(.ref a1), (.ref a1)] 3)) t := fun t k => castTop (ef_26_RR m a1 a1) k
  obtain ⟨fs, hr, hrun, hended, hW, hsame⟩ := X0.leave (v := some (.int 1)) (fun h => by rw [Bd.returns] at h; cases h)
  refine ⟨_, _, pre0 _ ?_, hrun, hended, _, _, rfl, ?_, ⟨_, rfl⟩, hW, hsame.mono (by decide) (by decide)⟩
  · show Steps p.tables e below (s₁.setTop (mkF m 0 #[vr a1, vr a1, .unset] [])) _
    refine XS.aloadN X0.here hx rfl (hb hby d26_0) rfl rfl ?_
    refine XS.aloadN X0.here hx rfl (hb hby d26_1) rfl rfl ?_
    refine Jvm.RoadKit.acmp (g := (mkF m 2 #[vr a1, vr a1, .unset] [(.ref a1), (.ref a1)])) X0 hx rfl rfl rfl (pc0 := 2) (pc' := 5) (same := true) rfl (hb hby d26_2) rfl (decide_eq_true rfl) (by decide) (by decide) ?_
    refine XS.iconst X0.here hx rfl (hb hby d26_5) ?_
    exact retN X0 hx (t := .boolean) Bd.returns (by simp) (hb hby d26_6) hr
  · show Qrm26_3 Z a1 h0 n0 _ s₁.heap _
    rw [e0]
    exact ⟨rfl, N0, rfl⟩
def Qrm20_3 (Z : State) (a1 : Addr) (a4 : Addr) (a12 : Addr) (k14 : ClassId) (a15 : Addr) (a16 : Addr) (p22 : Int32) (a27 : Addr) (k30 : ClassId) (p31 : Int32) (p32 : Int32) (h0 : Heap) (n0 : Nat) (v : Option Value) (h : Heap) (L : List Loc) : Prop := v = some (.ref a15) ∧ Fr n0 L ∧ Keep h0 h [a1] ∧ Fld Z h a1 "com/example/runqueue/runqueue/Arguments" "next" "I" (.int 1) ∧ Fld Z h a1 "com/example/runqueue/runqueue/Arguments" "args" "Ljava/util/List;" (.ref a4) ∧ Exa Z h a1 "com/example/runqueue/runqueue/Arguments" ∧ Fld Z h a1 "com/example/runqueue/runqueue/Arguments" "option" "Ljava/lang/String;" (.ref a15) ∧ Fld Z h a1 "com/example/runqueue/runqueue/Arguments" "attached" "Ljava/lang/String;" .null
set_option maxRecDepth 65536 in
set_option maxHeartbeats 40000000 in
theorem rm20_3 (l : Launch) (Z : State) (a0 : Array Value) (hw : ∀ d ∈ tables_1, d.before a0 Z = true) (ws : List Jvm.Cond) (a1 : Addr) (a4 : Addr) (a12 : Addr) (k14 : ClassId) (a15 : Addr) (a16 : Addr) (p22 : Int32) (a27 : Addr) (k30 : ClassId) (p31 : Int32) (p32 : Int32) (h0 : Heap) (n0 : Nat) (O0 : Old Z n0 h0) (F_2 : Fld Z h0 a1 "com/example/runqueue/runqueue/Arguments" "next" "I" (.int 0)) (F_5 : Fld Z h0 a1 "com/example/runqueue/runqueue/Arguments" "args" "Ljava/util/List;" (.ref a4)) (E_7 : Exa Z h0 a4 "java/util/ArrayList") (F_8 : Fld Z h0 a4 "java/util/ArrayList" "size" "I" (.int 2)) (F_13 : Fld Z h0 a4 "java/util/ArrayList" "elementData" "[Ljava/lang/Object;" (.ref a12)) (V_17 : Arv Z h0 a12 k14 (.object "java/lang/Object") (10 : Int32) [(.ref a15), (.ref a16)] .null) (E_19 : Exa Z h0 a15 "java/lang/String") (g_a15 : n0 ≤ a15) (S_23 : Sta Z Z.heap "java/lang/String" "COMPACT_STRINGS" "Z" (.int p22)) (hc24 : ¬ (p22 = (0 : Int32))) (F_25 : Fld Z h0 a15 "java/lang/String" "coder" "B" (.int 0)) (F_28 : Fld Z h0 a15 "java/lang/String" "value" "[B" (.ref a27)) (V_33 : Arv Z h0 a27 k30 .byte (2 : Int32) [(.int p31), (.int p32)] (.int 0)) (hc35 : p31 = (45 : Int32)) (hc36 : ¬ (p32 = (45 : Int32))) (E_53 : Exa Z h0 a1 "com/example/runqueue/runqueue/Arguments") (g_a1 : n0 ≤ a1) (F_56 : Fld Z h0 a1 "com/example/runqueue/runqueue/Arguments" "option" "Ljava/lang/String;" .null) (F_57 : Fld Z h0 a1 "com/example/runqueue/runqueue/Arguments" "attached" "Ljava/lang/String;" .null) (ne_a15_a1 : a15 ≠ a1) (ne_a27_a1 : a27 ≠ a1) (T_64 : own_SF Z) :
    MetFree l (⟨"com/example/runqueue/runqueue/Arguments", "nextOption", "()Ljava/lang/String;"⟩ : MethodName) (head1 (Jvm.Cond.code (⟨"com/example/runqueue/runqueue/Arguments", "nextOption", "()Ljava/lang/String;"⟩ : MethodName) prog_1_method_2_code 3 (some (.object "java/lang/String")) :: ws) (⟨4, 8, 40, 59⟩ : Room)) (fun a U => a = #[(.ref a1)] ∧ Z.Warmed39 U.vm ∧ U.heap = h0 ∧ own_CH Z own_EL n0 U.vm h0) (fun _ _ _ _ _ => True) (fun _ U o U' => ∃ v L, o = .returned v ∧ Qrm20_3 Z a1 a4 a12 k14 a15 a16 p22 a27 k30 p31 p32 h0 n0 v U'.heap L ∧ ReturnedEndW U o U' L (⟨4, 8, 40, 59⟩ : Room).cells (⟨4, 8, 40, 59⟩ : Room).slots) := by
  refine MetFree.of_bodySF (plainFor_of_name pn_21) hisR ?_
  intro p e s m args below meth c s₁ Bd hml0 hP hK
  obtain ⟨rfl, hZ, hh, hCH⟩ := hP
  have hx := Bd.exec
  have hby := Bd.bytes
  have hml : c.maxLocals = 3 := hml0
  have hown : s.vm.findClass "com/example/runqueue/runqueue/Arguments" = some m.cls := findClass_of_methodNamed Bd.named
  have X0 : Stand p l e (⟨4, 8, 40, 59⟩ : Room) s m #[(.ref a1)] below meth c s₁ [] 0 0 := Stand.of_body Bd
  have e0 : s₁.heap = h0 := by rw [← hh, Bd.state]; rfl
  have N0 := Fr.nil n0
  have pre0 : ∀ t, Steps p.tables e below (s₁.setTop (mkF m 0 #[vr a1, .unset, .unset] [])) t → Steps p.tables e below (s₁.setTop (entryFrame m #[(.ref a1)] 3)) t := fun t k => castTop (ef_20_R m a1) k
  have CS0 : own_CS Z own_EL n0 h0.size s.vm h0 := own_CS.start hCH
  have hS0 : s.Since s.vm 0 := (State.WarmedH.refl s).since 0
  obtain ⟨T3, X3, e3, st3⟩ := getF X0 hx hZ hown (host := "") (Or.inl (W hw 113 rfl)) Via.refl e0 F_2 (g := (mkF m 1 #[vr a1, .unset, .unset] [(.ref a1)])) rfl rfl (hb hby d20_1)
  obtain ⟨T6, X6, e6, st6⟩ := getF X3 hx hZ hown (host := "") (Or.inl (W hw 106 rfl)) Via.refl e3 F_5 (g := (mkF m 5 #[vr a1, .unset, .unset] [(.ref a1), (.int 0)])) rfl rfl (hb hby d20_5)
  obtain ⟨_, T9, L9, X9, hQ9, st9⟩ := cF X6 hx hZ hown (W hw 115 rfl) (W hw 116 rfl) (mvT hZ (W hw 117 rfl)) (W hw 118 rfl) (W hw 119 rfl) (W hw 120 rfl) (W hw 121 rfl) (W hw 122 rfl) (W hw 123 rfl) (W hw 46 rfl) (by decide) (rm21_1 l Z a0 hw [] a4 h0 n0 O0 F_8) e6 E_7 #[vr a1, .unset, .unset] [(.int 0)] (by rw [hml]; rfl) (hb hby d20_8) pd_23 rfl (W := 1) (Nat.le_of_eq rfl) (by decide) (by decide) (by decide) (by decide)
  obtain ⟨rfl, Nq9, e9⟩ := hQ9
  have N9 := Fr.app N0 Nq9
  obtain ⟨T10, X10, e10, st10⟩ := getF X9 hx hZ hown (host := "") (Or.inl (W hw 106 rfl)) Via.refl e9 F_5 (g := (mkF m 19 #[vr a1, .unset, .unset] [(.ref a1)])) rfl rfl (hb hby d20_19)
  obtain ⟨T11, X11, e11, st11⟩ := getF X10 hx hZ hown (host := "") (Or.inl (W hw 113 rfl)) Via.refl e10 F_2 (g := (mkF m 23 #[vr a1, .unset, .unset] [(.ref a1), (.ref a4)])) rfl rfl (hb hby d20_23)
  obtain ⟨_, T18, L18, X18, hQ18, st18⟩ := cF X11 hx hZ hown (W hw 124 rfl) (W hw 125 rfl) (mvT hZ (W hw 126 rfl)) (W hw 127 rfl) (W hw 128 rfl) (W hw 129 rfl) (W hw 130 rfl) (W hw 122 rfl) (W hw 131 rfl) (W hw 46 rfl) (by decide) (rm22_1 l Z a0 hw [] a4 a12 k14 a15 a16 h0 n0 O0 F_8 E_7 F_13 V_17) e11 E_7 #[vr a1, .unset, .unset] [] (by rw [hml]; rfl) (hb hby d20_26) pd_27 rfl (W := 0) (Nat.le_of_eq rfl) (by decide) (by decide) (by decide) (by decide)
  obtain ⟨rfl, Nq18, e18⟩ := hQ18
  have N18 := Fr.app N9 Nq18
  obtain ⟨T20, X20, e20, st20⟩ := castY X18 hx hZ hown (W hw 145 rfl) e18 (Ins.self E_19) (g := (mkF m 31 #[vr a1, .unset, .unset] [(.ref a15)])) rfl rfl (hb hby d20_31)
  obtain ⟨b21, T21, h21, k21, bb21, kk21, X21, e21, E21, hS21, hk21, hZ21, hown21, La21, Lc21, Lv21, Lb21, -, -, hC21, -, hne21, st21⟩ := ldcCH (s := s) (vm0 := s.vm) X20 hx hZ hown (W hw 146 rfl) (own_wS hw) e20 hS0 (Nat.zero_le _) (own_EW hw) (List.mem_of_getElem? (i := 0) rfl) CS0.1 (vs := [(.int 45), (.int 45)]) (z := (2 : Int32)) own_lt0 (by decide) (by decide) (g := (mkF m 36 #[vr a1, vr a15, .unset] [(.ref a15)])) rfl (hb hby d20_36) (n := 8) (by decide) (by decide) (by decide) (by decide)
  have CS21 := CS0.ldc hC21 (Keep.refl h0 [a1]).1
  have K21 := (Keep.refl h0 [a1]).ext E21
  have O21 := O0.ext E21
  have f26 := (F_25.ext E21)
  have f29 := (F_28.ext E21)
  have f34 := (V_33.ext E21)
  have f38 := (E_19.ext E21)
  obtain ⟨_, T37, L37, X37, hQ37, st37⟩ := cV X21 hx hZ21 hown21 (W hw 149 rfl) (W hw 150 rfl) (notFace_of_selects (args := #[]) (mvT hZ21 (W hw 152 rfl))) (W hw 152 rfl) (W hw 151 rfl) (W hw 153 rfl) (W hw 2 rfl) (by decide) (rm26_1 l Z a0 hw [] a15 b21 p22 a27 bb21 k30 p31 p32 kk21 h21 n0 O21 (hne21 a15 (CS21.2 a15 g_a15 E_19.lt)).1 La21 S_23 hc24 f26 Lc21 f29 Lv21 f34 Lb21 hc35 hc36) e21 f38 #[vr a1, vr a15, .unset] [] (by rw [hml]; rfl) (hb hby d20_38) pd_20 rfl (W := 0) (Nat.le_of_eq rfl) (by decide) (by decide) (by decide) (by decide)
  obtain ⟨rfl, Nq37, e37⟩ := hQ37
  have N37 := Fr.app N18 Nq37
  obtain ⟨b39, T39, h39, k39, bb39, kk39, X39, e39, E39, hS39, hk39, hZ39, hown39, La39, Lc39, Lv39, Lb39, -, -, hC39, -, hne39, st39⟩ := ldcCH (s := s) (vm0 := T21.vm) X37 hx hZ21 hown21 (W hw 157 rfl) (own_wS hw) e37 hS21 hk21 (own_EW hw) (List.mem_of_getElem? (i := 1) rfl) CS21.1 (vs := [(.int 45)]) (z := (1 : Int32)) own_lt1 (by decide) (by decide) (g := (mkF m 57 #[vr a1, vr a15, .unset] [(.ref a15)])) rfl (hb hby d20_57) (n := 4) (by decide) (by decide) (by decide) (by decide)
  have CS39 := CS21.ldc hC39 K21.1
  have K39 := K21.ext E39
  have O39 := O21.ext E39
  have f40 := (f38.ext E39)
  have f41 := (f29.ext E39)
  have f42 := (f34.ext E39)
  have f43 := (f26.ext E39)
  obtain ⟨_, T44, L44, X44, hQ44, st44⟩ := cV X39 hx hZ39 hown39 (W hw 158 rfl) (W hw 159 rfl) (notFace_of_selects (args := #[]) (mvT hZ39 (W hw 161 rfl))) (W hw 161 rfl) (W hw 160 rfl) (W hw 162 rfl) (W hw 2 rfl) (by decide) (rm28 l Z a0 hw [] a15 b39 a27 k30 p31 p32 p22 bb39 kk39 h39 n0 O39 f40 f41 f42 S_23 hc24 f43 La39 Lv39 Lb39 Lc39 hc35) e39 f40 #[vr a1, vr a15, .unset] [] (by rw [hml]; rfl) (hb hby d20_59) pd_36 rfl (W := 0) (Nat.le_of_eq rfl) (by decide) (by decide) (by decide) (by decide)
  obtain ⟨rfl, Nq44, e44⟩ := hQ44
  have N44 := Fr.app N37 Nq44
  obtain ⟨b45, T45, h45, k45, bb45, kk45, X45, e45, E45, hS45, hk45, hZ45, hown45, La45, Lc45, Lv45, Lb45, -, -, hC45, -, hne45, st45⟩ := ldcCH (s := s) (vm0 := T39.vm) X44 hx hZ39 hown39 (W hw 157 rfl) (own_wS hw) e44 hS39 hk39 (own_EW hw) (List.mem_of_getElem? (i := 1) rfl) CS39.1 (vs := [(.int 45)]) (z := (1 : Int32)) own_lt1 (by decide) (by decide) (g := (mkF m 66 #[vr a1, vr a15, .unset] [(.ref a15)])) rfl (hb hby d20_66) (n := 4) (by decide) (by decide) (by decide) (by decide)
  have CS45 := CS39.ldc hC45 K39.1
  have K45 := K39.ext E45
  have O45 := O39.ext E45
  have f46 := (f43.ext E45)
  have f47 := (f41.ext E45)
  have f48 := (f42.ext E45)
  have f50 := (f40.ext E45)
  obtain ⟨_, T49, L49, X49, hQ49, st49⟩ := cV X45 hx hZ45 hown45 (W hw 149 rfl) (W hw 150 rfl) (notFace_of_selects (args := #[]) (mvT hZ45 (W hw 152 rfl))) (W hw 152 rfl) (W hw 151 rfl) (W hw 153 rfl) (W hw 2 rfl) (by decide) (rm26_2 l Z a0 hw [] a15 b45 p22 a27 bb45 k30 p31 p32 kk45 h45 n0 O45 (hne45 a15 (CS45.2 a15 g_a15 E_19.lt)).1 La45 S_23 hc24 f46 Lc45 f47 Lv45 f48 Lb45) e45 f50 #[vr a1, vr a15, .unset] [] (by rw [hml]; rfl) (hb hby d20_68) pd_20 rfl (W := 0) (Nat.le_of_eq rfl) (by decide) (by decide) (by decide) (by decide)
  obtain ⟨rfl, Nq49, e49⟩ := hQ49
  have N49 := Fr.app N44 Nq49
  have f51 := (((F_2.ext E21).ext E39).ext E45)
  obtain ⟨T52, X52, e52, st52⟩ := getF X49 hx hZ45 hown45 (host := "") (Or.inl (W hw 113 rfl)) Via.refl e49 f51 (g := (mkF m 78 #[vr a1, vr a15, .unset] [(.ref a1), (.ref a1)])) rfl rfl (hb hby d20_78)
  have f54 := (((E_53.ext E21).ext E39).ext E45)
  obtain ⟨T55, h55, X55, e55, W55, st55⟩ := putF X52 hx hZ45 hown45 (host := "") (Or.inl (W hw 113 rfl)) Via.refl e52 f51 f54 (Or.inl (W hw 114 rfl)) (W hw 100 rfl) (ty := .int) (by decide) rfl rfl (g := (mkF m 83 #[vr a1, vr a15, .unset] [(.int 1), (.ref a1)])) rfl rfl (hb hby d20_83)
  have K55 := K45.wr W55 (Or.inl (List.mem_of_getElem? (i := 0) rfl))
  have O55 := O45.wr W55 g_a1
  have N55 := Fr.snoc X55 N49 g_a1
  have CS55 := CS45.wr W55 g_a1 F_2.lt
  have Fw55 := f51.same W55
  obtain ⟨b58, T58, h58, k58, bb58, kk58, X58, e58, E58, hS58, hk58, hZ58, hown58, La58, Lc58, Lv58, Lb58, -, -, hC58, -, hne58, st58⟩ := ldcCH (s := s) (vm0 := T45.vm) X55 hx hZ45 hown45 (W hw 146 rfl) (own_wS hw) e55 hS45 (Nat.le_trans hk45 (Keep.of_wr W55).1) (own_EW hw) (List.mem_of_getElem? (i := 0) rfl) CS55.1 (vs := [(.int 45), (.int 45)]) (z := (2 : Int32)) own_lt0 (by decide) (by decide) (g := (mkF m 87 #[vr a1, vr a15, .unset] [(.ref a15)])) rfl (hb hby d20_87) (n := 8) (by decide) (by decide) (by decide) (by decide)
  have K58 := K55.ext E58
  have O58 := O55.ext E58
  have f59 := ((f50.wr W55).ext E58)
  have f60 := ((f47.other W55 (Or.inl ne_a15_a1)).ext E58)
  have f61 := ((f48.other W55 ne_a27_a1).ext E58)
  have f62 := ((f46.other W55 (Or.inl ne_a15_a1)).ext E58)
  obtain ⟨_, T63, L63, X63, hQ63, st63⟩ := cV X58 hx hZ58 hown58 (W hw 158 rfl) (W hw 159 rfl) (notFace_of_selects (args := #[]) (mvT hZ58 (W hw 161 rfl))) (W hw 161 rfl) (W hw 160 rfl) (W hw 162 rfl) (W hw 2 rfl) (by decide) (rm28_1 l Z a0 hw [] a15 b58 a27 k30 p31 p32 p22 bb58 kk58 h58 n0 O58 f59 f60 f61 S_23 hc24 f62 La58 Lv58 Lb58 Lc58 hc35 hc36) e58 f59 #[vr a1, vr a15, .unset] [] (by rw [hml]; rfl) (hb hby d20_89) pd_36 rfl (W := 0) (Nat.le_of_eq rfl) (by decide) (by decide) (by decide) (by decide)
  obtain ⟨rfl, Nq63, e63⟩ := hQ63
  have N63 := Fr.app N55 Nq63
  obtain ⟨_, T65, L65, X65, hQ65, st65⟩ := cV X63 hx hZ58 hown58 (W hw 225 rfl) (W hw 226 rfl) (notFace_of_selects (args := #[]) (mvT hZ58 (W hw 228 rfl))) (W hw 228 rfl) (W hw 227 rfl) (W hw 229 rfl) (W hw 2 rfl) (by decide) (rm42 l Z a0 hw [] a15 a27 k30 p31 p32 p22 h58 n0 O58 f59 f60 f61 S_23 hc24 f62 T_64) e63 f59 #[vr a1, vr a15, .unset] [(.ref a1)] (by rw [hml]; rfl) (hb hby d20_146) pd_39 rfl (W := 1) (Nat.le_of_eq rfl) (by decide) (by decide) (by decide) (by decide)
  obtain ⟨rfl, Nq65, e65⟩ := hQ65
  have N65 := Fr.app N63 Nq65
  have f66 := (((((F_56.ext E21).ext E39).ext E45).other W55 (Or.inr (slot_ne (Or.inl (W hw 211 rfl)) (Or.inl (W hw 114 rfl)) (by decide) (t := (.object "java/lang/String")) (t' := .int) (by decide) (by decide)))).ext E58)
  have f67 := ((f54.wr W55).ext E58)
  obtain ⟨T68, h68, X68, e68, W68, st68⟩ := putF X65 hx hZ58 hown58 (host := "") (Or.inl (W hw 210 rfl)) Via.refl e65 f66 f67 (Or.inl (W hw 211 rfl)) (W hw 100 rfl) (ty := (.object "java/lang/String")) (by decide) rfl rfl (g := (mkF m 149 #[vr a1, vr a15, .unset] [(.ref a15), (.ref a1)])) rfl rfl (hb hby d20_149)
  have K68 := K58.wr W68 (Or.inl (List.mem_of_getElem? (i := 0) rfl))
  have O68 := O58.wr W68 g_a1
  have N68 := Fr.snoc X68 N65 g_a1
  have Fw68 := f66.same W68
  have f69 := (f60.other W68 (Or.inl ne_a15_a1))
  have f70 := (f61.other W68 ne_a27_a1)
  have f71 := (f59.wr W68)
  have f72 := (f62.other W68 (Or.inl ne_a15_a1))
  obtain ⟨_, T73, L73, X73, hQ73, st73⟩ := cV X68 hx hZ58 hown58 (W hw 237 rfl) (W hw 169 rfl) (notFace_of_selects (args := #[]) (mvT hZ58 (W hw 171 rfl))) (W hw 171 rfl) (W hw 170 rfl) (W hw 172 rfl) (W hw 2 rfl) (by decide) (rm30 l Z a0 hw [] a15 a27 k30 p31 p32 p22 h68 n0 O68 f69 f70 f71 S_23 hc24 f72) e68 f71 #[vr a1, vr a15, .unset] [(.ref a1)] (by rw [hml]; rfl) (hb hby d20_154) pd_23 rfl (W := 1) (Nat.le_of_eq rfl) (by decide) (by decide) (by decide) (by decide)
  obtain ⟨rfl, Nq73, e73⟩ := hQ73
  have N73 := Fr.app N68 Nq73
  have f74 := ((((((F_57.ext E21).ext E39).ext E45).other W55 (Or.inr (slot_ne (Or.inl (W hw 213 rfl)) (Or.inl (W hw 114 rfl)) (by decide) (t := (.object "java/lang/String")) (t' := .int) (by decide) (by decide)))).ext E58).other W68 (Or.inr (slot_ne (Or.inl (W hw 213 rfl)) (Or.inl (W hw 211 rfl)) (by decide) (t := (.object "java/lang/String")) (t' := (.object "java/lang/String")) (by decide) (by decide))))
  have f75 := (f67.wr W68)
  obtain ⟨T76, h76, X76, e76, W76, st76⟩ := putF X73 hx hZ58 hown58 (host := "") (Or.inl (W hw 212 rfl)) Via.refl e73 f74 f75 (Or.inl (W hw 213 rfl)) (W hw 100 rfl) (ty := (.object "java/lang/String")) (by decide) rfl rfl (g := (mkF m 170 #[vr a1, vr a15, .unset] [.null, (.ref a1)])) rfl rfl (hb hby d20_170)
  have K76 := K68.wr W76 (Or.inl (List.mem_of_getElem? (i := 0) rfl))
  have N76 := Fr.snoc X76 N73 g_a1
  have Fw76 := f74.same W76
  have f77 := (Fw68.other W76 (Or.inr (slot_ne (Or.inl (W hw 211 rfl)) (Or.inl (W hw 213 rfl)) (by decide) (t := (.object "java/lang/String")) (t' := (.object "java/lang/String")) (by decide) (by decide))))
  obtain ⟨T78, X78, e78, st78⟩ := getF X76 hx hZ58 hown58 (host := "") (Or.inl (W hw 210 rfl)) Via.refl e76 f77 (g := (mkF m 174 #[vr a1, vr a15, .unset] [(.ref a1)])) rfl rfl (hb hby d20_174)
  have f79 := (((Fw55.ext E58).other W68 (Or.inr (slot_ne (Or.inl (W hw 114 rfl)) (Or.inl (W hw 211 rfl)) (by decide) (t := .int) (t' := (.object "java/lang/String")) (by decide) (by decide)))).other W76 (Or.inr (slot_ne (Or.inl (W hw 114 rfl)) (Or.inl (W hw 213 rfl)) (by decide) (t := .int) (t' := (.object "java/lang/String")) (by decide) (by decide))))
  have f80 := (((((((F_5.ext E21).ext E39).ext E45).other W55 (Or.inr (slot_ne (Or.inr (W hw 107 rfl)) (Or.inl (W hw 114 rfl)) (by decide) (t := (.object "java/util/List")) (t' := .int) (by decide) (by decide)))).ext E58).other W68 (Or.inr (slot_ne (Or.inr (W hw 107 rfl)) (Or.inl (W hw 211 rfl)) (by decide) (t := (.object "java/util/List")) (t' := (.object "java/lang/String")) (by decide) (by decide)))).other W76 (Or.inr (slot_ne (Or.inr (W hw 107 rfl)) (Or.inl (W hw 213 rfl)) (by decide) (t := (.object "java/util/List")) (t' := (.object "java/lang/String")) (by decide) (by decide))))
  have f81 := (f75.wr W76)
  obtain ⟨fs, hr, hrun, hended, hREW⟩ := X78.leaveW (s := s) hS58 (by rw [e78]; exact (Nat.le_trans (Nat.le_trans hk58 (Keep.of_wr W68).1) (Keep.of_wr W76).1)) (v := some (.ref a15)) (fun h => by rw [Bd.returns] at h; cases h)
  refine ⟨_, _, pre0 _ ?_, hrun, hended, _, _, rfl, ?_, hREW.1, hREW.2.1, hREW.2.2.1, hREW.2.2.2.mono (by decide) (by decide)⟩
  · show Steps p.tables e below (s₁.setTop (mkF m 0 #[vr a1, .unset, .unset] [])) _
    refine XS.aloadN X0.here hx rfl (hb hby d20_0) rfl rfl ?_
    refine st3 _ ?_
    refine XS.aloadN X3.here hx rfl (hb hby d20_4) rfl rfl ?_
    refine st6 _ ?_
    refine st9 _ ?_
    refine XS.icmpYes X9.here hx rfl (pc0 := 13) (pc' := 18) rfl (hb hby d20_13) rfl (feq ((by decide) : ¬ ((0 : Int32) = (2 : Int32)))).2 (by decide) (by decide) ?_
    refine XS.aloadN X9.here hx rfl (hb hby d20_18) rfl rfl ?_
    refine st10 _ ?_
    refine XS.aloadN X10.here hx rfl (hb hby d20_22) rfl rfl ?_
    refine st11 _ ?_
    show Steps p.tables e below (T11.setTop (mkF m 26 #[vr a1, .unset, .unset] [(.int 0), (.ref a4)])) _
    refine st18 _ ?_
    refine st20 _ ?_
    refine XS.astoreN X20.here hx rfl (hb hby d20_34) rfl rfl (l' := #[vr a1, vr a15, .unset]) rfl ?_
    refine XS.aloadN X20.here hx rfl (hb hby d20_35) rfl rfl ?_
    refine st21 _ ?_
    refine st37 _ ?_
    refine XS.ifYes X37.here hx rfl (pc0 := 41) (pc' := 56) rfl (hb hby d20_41) rfl ((if0 _ _).trans (teq ((by decide) : (0 : Int32) = (0 : Int32))).1) (by decide) (by decide) ?_
    refine XS.aloadN X37.here hx rfl (hb hby d20_56) rfl rfl ?_
    refine st39 _ ?_
    refine st44 _ ?_
    show Steps p.tables e below (T44.setTop (mkF m 62 #[vr a1, vr a15, .unset] [(.int 1)])) _
    refine XS.ifNo X44.here hx rfl (hb hby d20_62) rfl ((if0 _ _).trans (feq ((by decide) : ¬ ((1 : Int32) = (0 : Int32)))).1) ?_
    refine XS.aloadN X44.here hx rfl (hb hby d20_65) rfl rfl ?_
    refine st45 _ ?_
    refine st49 _ ?_
    refine XS.ifYes X49.here hx rfl (pc0 := 71) (pc' := 76) rfl (hb hby d20_71) rfl ((if0 _ _).trans (teq ((by decide) : (0 : Int32) = (0 : Int32))).1) (by decide) (by decide) ?_
    refine XS.aloadN X49.here hx rfl (hb hby d20_76) rfl rfl ?_
    refine XS.dup X49.here hx rfl (hb hby d20_77) rfl rfl ?_
    refine st52 _ ?_
    refine XS.iconst X52.here hx rfl (hb hby d20_81) ?_
    refine XS.iadd X52.here hx rfl (hb hby d20_82) rfl ?_
    show Steps p.tables e below (T52.setTop (mkF m 83 #[vr a1, vr a15, .unset] [(.int ((0 : Int32) + (1 : Int32))), (.ref a1)])) _
    rw [show ((0 : Int32) + (1 : Int32)) = (1 : Int32) from by decide]
    refine st55 _ ?_
    refine XS.aloadN X55.here hx rfl (hb hby d20_86) rfl rfl ?_
    refine st58 _ ?_
    refine st63 _ ?_
    refine XS.ifYes X63.here hx rfl (pc0 := 92) (pc' := 142) rfl (hb hby d20_92) rfl ((if0 _ _).trans (teq ((by decide) : (0 : Int32) = (0 : Int32))).1) (by decide) (by decide) ?_
    refine XS.aloadN X63.here hx rfl (hb hby d20_142) rfl rfl ?_
    refine XS.aloadN X63.here hx rfl (hb hby d20_143) rfl rfl ?_
    refine XS.iconst X63.here hx rfl (hb hby d20_144) ?_
    refine XS.iconst X63.here hx rfl (hb hby d20_145) ?_
    show Steps p.tables e below (T63.setTop (mkF m 146 #[vr a1, vr a15, .unset] [(.int 2), (.int 0), (.ref a15), (.ref a1)])) _
    refine st65 _ ?_
    refine st68 _ ?_
    refine XS.aloadN X68.here hx rfl (hb hby d20_152) rfl rfl ?_
    refine XS.aloadN X68.here hx rfl (hb hby d20_153) rfl rfl ?_
    refine st73 _ ?_
    refine XS.iconst X73.here hx rfl (hb hby d20_157) ?_
    refine XS.icmpYes X73.here hx rfl (pc0 := 158) (pc' := 169) rfl (hb hby d20_158) rfl (flt ((by decide) : ¬ ((2 : Int32) < (2 : Int32)))).2.2.2 (by decide) (by decide) ?_
    refine XS.aconstNull X73.here hx rfl (hb hby d20_169) ?_
    refine st76 _ ?_
    refine XS.aloadN X76.here hx rfl (hb hby d20_173) rfl rfl ?_
    show Steps p.tables e below (T76.setTop (mkF m 174 #[vr a1, vr a15, .unset] [(.ref a1)])) _
    refine st78 _ ?_
    jvm_step X78.here [X78.here.top, hx, (hb hby d20_177), X78.method', Bd.returns, Value.isRef, FieldType.isReference]
    first | (intro acts; rw [hr _ acts rfl rfl rfl]) | rw [hr _ _ rfl rfl rfl]
    exact Steps.refl _
  · show Qrm20_3 Z a1 a4 a12 k14 a15 a16 p22 a27 k30 p31 p32 h0 n0 _ T78.heap _
    rw [e78]
    exact ⟨rfl, N76, K76, f79, f80, f81, f77, Fw76⟩
def Qrm5_1 (Z : State) (a1 : Addr) (a2 : Addr) (k3 : ClassId) (p4 : Int32) (p5 : Int32) (p6 : Int32) (p7 : Int32) (k11 : ClassId) (h0 : Heap) (n0 : Nat) (v : Option Value) (h : Heap) (L : List Loc) : Prop := v = some (.int 4) ∧ Fr n0 L ∧ Keep h0 h [a2] ∧ Arv Z h a2 k11 .byte (4 : Int32) [(.int (nar .byte (p4.toInt8.toInt32))), (.int (nar .byte (p5.toInt8.toInt32))), (.int (nar .byte (p6.toInt8.toInt32))), (.int (nar .byte (p7.toInt8.toInt32)))] (.int 0) ∧ Exa Z h a2 "[B"
set_option maxRecDepth 65536 in
set_option maxHeartbeats 40000000 in
theorem rm5_1 (l : Launch) (Z : State) (a0 : Array Value) (hw : ∀ d ∈ tables_1, d.before a0 Z = true) (ws : List Jvm.Cond) (a1 : Addr) (a2 : Addr) (k3 : ClassId) (p4 : Int32) (p5 : Int32) (p6 : Int32) (p7 : Int32) (k11 : ClassId) (h0 : Heap) (n0 : Nat) (O0 : Old Z n0 h0) (V_8 : Arv Z h0 a1 k3 .char (4 : Int32) [(.int p4), (.int p5), (.int p6), (.int p7)] (.int 0)) (hc10 : ¬ ((255 : Int32) < p4)) (V_12 : Arv Z h0 a2 k11 .byte (4 : Int32) [] (.int 0)) (g_a2 : n0 ≤ a2) (E_16 : Exa Z h0 a2 "[B") (ne_a1_a2 : a1 ≠ a2) (hc19 : ¬ ((255 : Int32) < p5)) (hc25 : ¬ ((255 : Int32) < p6)) (hc31 : ¬ ((255 : Int32) < p7)) :
    MF l Z h0 (⟨"java/lang/StringUTF16", "compress", "([CI[BII)I"⟩ : MethodName) jdk_52_method_21_code 7 (some .int) ws (⟨0, 0, 0, 0⟩ : Room) #[(.ref a1), (.int 0), (.ref a2), (.int 0), (.int 4)] (Qrm5_1 Z a1 a2 k3 p4 p5 p6 p7 k11 h0 n0) := by
  refine MetFree.of_bodySF (plainFor_of_name pn_0) hisR ?_
  intro p e s m args below meth c s₁ Bd hml0 hP hK
  obtain ⟨rfl, hZ, hh⟩ := hP
  have hx := Bd.exec
  have hby := Bd.bytes
  have X0 : Stand p l e (⟨0, 0, 0, 0⟩ : Room) s m #[(.ref a1), (.int 0), (.ref a2), (.int 0), (.int 4)] below meth c s₁ [] 0 0 := Stand.of_body Bd
  have e0 : s₁.heap = h0 := by rw [← hh, Bd.state]; rfl
  have N0 := Fr.nil n0
  have pre0 : ∀ t, Steps p.tables e below (s₁.setTop (mkF m 0 #[vr a1, vi 0, vr a2, vi 0, vi 4, .unset, .unset] [])) t → Steps p.tables e below (s₁.setTop (entryFrame m #[(.ref a1), (.int 0), (.ref a2), (.int 0), (.int 4)] 7)) t := fun t k => castTop (ef_5_RIRII m a1 (0 : Int32) a2 (0 : Int32) (4 : Int32)) k
  obtain ⟨cl9, Ar9, q9, S9, M9, Hs9, G9⟩ := id V_8
  have hin9 : ¬ ((0 : Int32) < 0 ∨ cl9.slots.size ≤ ((0 : Int32)).toNatClampNeg) := inb_of S9 ⟨by decide, by decide⟩
  have hat9 : cl9.slots[((0 : Int32)).toNatClampNeg]? = some (.int p4) := Has.at Hs9 hin9 rfl
  have V13 : Arv Z h0 a2 k11 .byte (4 : Int32) [(.int 0)] (.int 0) := V_12.pad (pad_rep [] (.int 0) 1)
  obtain ⟨cl14, Ar14, q14, S14, M14, Hs14, G14⟩ := id V13
  have hin14 : ¬ ((0 : Int32) < 0 ∨ cl14.slots.size ≤ ((0 : Int32)).toNatClampNeg) := inb_of S14 ⟨by decide, by decide⟩
  obtain ⟨T15, h15, X15, e15, W15, st15⟩ := stB X0 hx hZ e0 Ar14 (j := (0 : Int32)) hin14 (g := (mkF m 31 #[vr a1, vi 0, vr a2, vi 0, vi 4, vi 0, vi p4] [(.int (p4.toInt8.toInt32)), (.int 0), (.ref a2)])) rfl rfl (hb hby d5_31)
  have K15 := (Keep.refl h0 [a2]).wr W15 (Or.inl (List.mem_of_getElem? (i := 0) rfl))
  have N15 := Fr.snoc X15 N0 g_a2
  have Vw15 : Arv Z h15 a2 k11 .byte (4 : Int32) [(.int (nar .byte (p4.toInt8.toInt32)))] (.int 0) := Arv.set Ar14 q14 S14 M14 Hs14 G14 (fits_nar_byte _) W15 0 rfl (Nat.le_of_ble_eq_true rfl)
  have f17 := (V_8.other W15 ne_a1_a2)
  obtain ⟨cl18, Ar18, q18, S18, M18, Hs18, G18⟩ := id f17
  have hin18 : ¬ ((1 : Int32) < 0 ∨ cl18.slots.size ≤ ((1 : Int32)).toNatClampNeg) := inb_of S18 ⟨by decide, by decide⟩
  have hat18 : cl18.slots[((1 : Int32)).toNatClampNeg]? = some (.int p5) := Has.at Hs18 hin18 rfl
  have V20 : Arv Z h15 a2 k11 .byte (4 : Int32) [(.int (nar .byte (p4.toInt8.toInt32))), (.int 0)] (.int 0) := Vw15.pad (pad_rep [(.int (nar .byte (p4.toInt8.toInt32)))] (.int 0) 1)
  obtain ⟨cl21, Ar21, q21, S21, M21, Hs21, G21⟩ := id V20
  have hin21 : ¬ ((1 : Int32) < 0 ∨ cl21.slots.size ≤ ((1 : Int32)).toNatClampNeg) := inb_of S21 ⟨by decide, by decide⟩
  obtain ⟨T22, h22, X22, e22, W22, st22⟩ := stB X15 hx hZ e15 Ar21 (j := (1 : Int32)) hin21 (g := (mkF m 31 #[vr a1, vi 1, vr a2, vi 1, vi 4, vi 1, vi p5] [(.int (p5.toInt8.toInt32)), (.int 1), (.ref a2)])) rfl rfl (hb hby d5_31)
  have K22 := K15.wr W22 (Or.inl (List.mem_of_getElem? (i := 0) rfl))
  have N22 := Fr.snoc X22 N15 g_a2
  have Vw22 : Arv Z h22 a2 k11 .byte (4 : Int32) [(.int (nar .byte (p4.toInt8.toInt32))), (.int (nar .byte (p5.toInt8.toInt32)))] (.int 0) := Arv.set Ar21 q21 S21 M21 Hs21 G21 (fits_nar_byte _) W22 1 rfl (Nat.le_of_ble_eq_true rfl)
  have f23 := (f17.other W22 ne_a1_a2)
  obtain ⟨cl24, Ar24, q24, S24, M24, Hs24, G24⟩ := id f23
  have hin24 : ¬ ((2 : Int32) < 0 ∨ cl24.slots.size ≤ ((2 : Int32)).toNatClampNeg) := inb_of S24 ⟨by decide, by decide⟩
  have hat24 : cl24.slots[((2 : Int32)).toNatClampNeg]? = some (.int p6) := Has.at Hs24 hin24 rfl
  have V26 : Arv Z h22 a2 k11 .byte (4 : Int32) [(.int (nar .byte (p4.toInt8.toInt32))), (.int (nar .byte (p5.toInt8.toInt32))), (.int 0)] (.int 0) := Vw22.pad (pad_rep [(.int (nar .byte (p4.toInt8.toInt32))), (.int (nar .byte (p5.toInt8.toInt32)))] (.int 0) 1)
  obtain ⟨cl27, Ar27, q27, S27, M27, Hs27, G27⟩ := id V26
  have hin27 : ¬ ((2 : Int32) < 0 ∨ cl27.slots.size ≤ ((2 : Int32)).toNatClampNeg) := inb_of S27 ⟨by decide, by decide⟩
  obtain ⟨T28, h28, X28, e28, W28, st28⟩ := stB X22 hx hZ e22 Ar27 (j := (2 : Int32)) hin27 (g := (mkF m 31 #[vr a1, vi 2, vr a2, vi 2, vi 4, vi 2, vi p6] [(.int (p6.toInt8.toInt32)), (.int 2), (.ref a2)])) rfl rfl (hb hby d5_31)
  have K28 := K22.wr W28 (Or.inl (List.mem_of_getElem? (i := 0) rfl))
  have N28 := Fr.snoc X28 N22 g_a2
  have Vw28 : Arv Z h28 a2 k11 .byte (4 : Int32) [(.int (nar .byte (p4.toInt8.toInt32))), (.int (nar .byte (p5.toInt8.toInt32))), (.int (nar .byte (p6.toInt8.toInt32)))] (.int 0) := Arv.set Ar27 q27 S27 M27 Hs27 G27 (fits_nar_byte _) W28 2 rfl (Nat.le_of_ble_eq_true rfl)
  have f29 := (f23.other W28 ne_a1_a2)
  obtain ⟨cl30, Ar30, q30, S30, M30, Hs30, G30⟩ := id f29
  have hin30 : ¬ ((3 : Int32) < 0 ∨ cl30.slots.size ≤ ((3 : Int32)).toNatClampNeg) := inb_of S30 ⟨by decide, by decide⟩
  have hat30 : cl30.slots[((3 : Int32)).toNatClampNeg]? = some (.int p7) := Has.at Hs30 hin30 rfl
  have V32 : Arv Z h28 a2 k11 .byte (4 : Int32) [(.int (nar .byte (p4.toInt8.toInt32))), (.int (nar .byte (p5.toInt8.toInt32))), (.int (nar .byte (p6.toInt8.toInt32))), (.int 0)] (.int 0) := Vw28.pad (pad_rep [(.int (nar .byte (p4.toInt8.toInt32))), (.int (nar .byte (p5.toInt8.toInt32))), (.int (nar .byte (p6.toInt8.toInt32)))] (.int 0) 1)
  obtain ⟨cl33, Ar33, q33, S33, M33, Hs33, G33⟩ := id V32
  have hin33 : ¬ ((3 : Int32) < 0 ∨ cl33.slots.size ≤ ((3 : Int32)).toNatClampNeg) := inb_of S33 ⟨by decide, by decide⟩
  obtain ⟨T34, h34, X34, e34, W34, st34⟩ := stB X28 hx hZ e28 Ar33 (j := (3 : Int32)) hin33 (g := (mkF m 31 #[vr a1, vi 3, vr a2, vi 3, vi 4, vi 3, vi p7] [(.int (p7.toInt8.toInt32)), (.int 3), (.ref a2)])) rfl rfl (hb hby d5_31)
  have K34 := K28.wr W34 (Or.inl (List.mem_of_getElem? (i := 0) rfl))
  have N34 := Fr.snoc X34 N28 g_a2
  have Vw34 : Arv Z h34 a2 k11 .byte (4 : Int32) [(.int (nar .byte (p4.toInt8.toInt32))), (.int (nar .byte (p5.toInt8.toInt32))), (.int (nar .byte (p6.toInt8.toInt32))), (.int (nar .byte (p7.toInt8.toInt32)))] (.int 0) := Arv.set Ar33 q33 S33 M33 Hs33 G33 (fits_nar_byte _) W34 3 rfl (Nat.le_of_ble_eq_true rfl)
  have f35 := ((((E_16.wr W15).wr W22).wr W28).wr W34)
  obtain ⟨fs, hr, hrun, hended, hW, hsame⟩ := X34.leave (v := some (.int 4)) (fun h => by rw [Bd.returns] at h; cases h)
  refine ⟨_, _, pre0 _ ?_, hrun, hended, _, _, rfl, ?_, ⟨_, rfl⟩, hW, hsame.mono (by decide) (by decide)⟩
  · show Steps p.tables e below (s₁.setTop (mkF m 0 #[vr a1, vi 0, vr a2, vi 0, vi 4, .unset, .unset] [])) _
    refine XS.iconst X0.here hx rfl (hb hby d5_0) ?_
    refine XS.istore X0.here hx rfl (hb hby d5_1) rfl (l' := #[vr a1, vi 0, vr a2, vi 0, vi 4, vi 0, .unset]) rfl ?_
    refine XS.iload X0.here hx rfl (hb hby d5_3) rfl ?_
    refine XS.iload X0.here hx rfl (hb hby d5_5) rfl ?_
    refine XS.icmpNo X0.here hx rfl (hb hby d5_7) rfl (tlt ((by decide) : (0 : Int32) < (4 : Int32))).2.1 ?_
    refine XS.aloadN X0.here hx rfl (hb hby d5_10) rfl rfl ?_
    refine XS.iloadN X0.here hx rfl (hb hby d5_11) rfl ?_
    refine X0.caload hx (j := (0 : Int32)) (v := (.int p4)) (by rw [e0]; exact Ar9.1) (State.isArrayOf_alike hZ.alike Ar9.2.1) Ar9.2.2 hin9 hat9 (g := (mkF m 12 #[vr a1, vi 0, vr a2, vi 0, vi 4, vi 0, .unset] [(.int 0), (.ref a1)])) rfl rfl (hb hby d5_12) _ ?_
    refine XS.istore X0.here hx rfl (hb hby d5_13) rfl (l' := #[vr a1, vi 0, vr a2, vi 0, vi 4, vi 0, vi p4]) rfl ?_
    refine XS.iload X0.here hx rfl (hb hby d5_15) rfl ?_
    show Steps p.tables e below (s₁.setTop (mkF m 17 #[vr a1, vi 0, vr a2, vi 0, vi 4, vi 0, vi p4] [(.int p4)])) _
    refine XS.sipush X0.here hx rfl (hb hby d5_17) ?_
    refine XS.icmpYes X0.here hx rfl (pc0 := 20) (pc' := 26) rfl (hb hby d5_20) rfl (flt (hc10 : ¬ ((255 : Int32) < p4))).2.2.2 (by decide) (by decide) ?_
    refine XS.aloadN X0.here hx rfl (hb hby d5_26) rfl rfl ?_
    refine XS.iloadN X0.here hx rfl (hb hby d5_27) rfl ?_
    refine XS.iload X0.here hx rfl (hb hby d5_28) rfl ?_
    refine XS.i2b X0.here hx rfl (hb hby d5_30) rfl ?_
    refine st15 _ ?_
    refine XS.iinc X15.here hx rfl (hb hby d5_32) rfl (l' := #[vr a1, vi 1, vr a2, vi 0, vi 4, vi 0, vi p4]) rfl ?_
    refine XS.iinc X15.here hx rfl (hb hby d5_35) rfl (l' := #[vr a1, vi 1, vr a2, vi 1, vi 4, vi 0, vi p4]) rfl ?_
    refine XS.iinc X15.here hx rfl (hb hby d5_38) rfl (l' := #[vr a1, vi 1, vr a2, vi 1, vi 4, vi 1, vi p4]) rfl ?_
    show Steps p.tables e below (T15.setTop (mkF m 41 #[vr a1, vi 1, vr a2, vi 1, vi 4, vi 1, vi p4] [])) _
    refine XS.goto X15.here hx rfl (pc0 := 41) (pc' := 3) rfl (hb hby d5_41) (by decide) (by decide) ?_
    refine XS.iload X15.here hx rfl (hb hby d5_3) rfl ?_
    refine XS.iload X15.here hx rfl (hb hby d5_5) rfl ?_
    refine XS.icmpNo X15.here hx rfl (hb hby d5_7) rfl (tlt ((by decide) : (1 : Int32) < (4 : Int32))).2.1 ?_
    refine XS.aloadN X15.here hx rfl (hb hby d5_10) rfl rfl ?_
    refine XS.iloadN X15.here hx rfl (hb hby d5_11) rfl ?_
    refine X15.caload hx (j := (1 : Int32)) (v := (.int p5)) (by rw [e15]; exact Ar18.1) (State.isArrayOf_alike hZ.alike Ar18.2.1) Ar18.2.2 hin18 hat18 (g := (mkF m 12 #[vr a1, vi 1, vr a2, vi 1, vi 4, vi 1, vi p4] [(.int 1), (.ref a1)])) rfl rfl (hb hby d5_12) _ ?_
    refine XS.istore X15.here hx rfl (hb hby d5_13) rfl (l' := #[vr a1, vi 1, vr a2, vi 1, vi 4, vi 1, vi p5]) rfl ?_
    refine XS.iload X15.here hx rfl (hb hby d5_15) rfl ?_
    refine XS.sipush X15.here hx rfl (hb hby d5_17) ?_
    show Steps p.tables e below (T15.setTop (mkF m 20 #[vr a1, vi 1, vr a2, vi 1, vi 4, vi 1, vi p5] [(.int 255), (.int p5)])) _
    refine XS.icmpYes X15.here hx rfl (pc0 := 20) (pc' := 26) rfl (hb hby d5_20) rfl (flt (hc19 : ¬ ((255 : Int32) < p5))).2.2.2 (by decide) (by decide) ?_
    refine XS.aloadN X15.here hx rfl (hb hby d5_26) rfl rfl ?_
    refine XS.iloadN X15.here hx rfl (hb hby d5_27) rfl ?_
    refine XS.iload X15.here hx rfl (hb hby d5_28) rfl ?_
    refine XS.i2b X15.here hx rfl (hb hby d5_30) rfl ?_
    refine st22 _ ?_
    refine XS.iinc X22.here hx rfl (hb hby d5_32) rfl (l' := #[vr a1, vi 2, vr a2, vi 1, vi 4, vi 1, vi p5]) rfl ?_
    refine XS.iinc X22.here hx rfl (hb hby d5_35) rfl (l' := #[vr a1, vi 2, vr a2, vi 2, vi 4, vi 1, vi p5]) rfl ?_
    refine XS.iinc X22.here hx rfl (hb hby d5_38) rfl (l' := #[vr a1, vi 2, vr a2, vi 2, vi 4, vi 2, vi p5]) rfl ?_
    refine XS.goto X22.here hx rfl (pc0 := 41) (pc' := 3) rfl (hb hby d5_41) (by decide) (by decide) ?_
    show Steps p.tables e below (T22.setTop (mkF m 3 #[vr a1, vi 2, vr a2, vi 2, vi 4, vi 2, vi p5] [])) _
    refine XS.iload X22.here hx rfl (hb hby d5_3) rfl ?_
    refine XS.iload X22.here hx rfl (hb hby d5_5) rfl ?_
    refine XS.icmpNo X22.here hx rfl (hb hby d5_7) rfl (tlt ((by decide) : (2 : Int32) < (4 : Int32))).2.1 ?_
    refine XS.aloadN X22.here hx rfl (hb hby d5_10) rfl rfl ?_
    refine XS.iloadN X22.here hx rfl (hb hby d5_11) rfl ?_
    refine X22.caload hx (j := (2 : Int32)) (v := (.int p6)) (by rw [e22]; exact Ar24.1) (State.isArrayOf_alike hZ.alike Ar24.2.1) Ar24.2.2 hin24 hat24 (g := (mkF m 12 #[vr a1, vi 2, vr a2, vi 2, vi 4, vi 2, vi p5] [(.int 2), (.ref a1)])) rfl rfl (hb hby d5_12) _ ?_
    refine XS.istore X22.here hx rfl (hb hby d5_13) rfl (l' := #[vr a1, vi 2, vr a2, vi 2, vi 4, vi 2, vi p6]) rfl ?_
    refine XS.iload X22.here hx rfl (hb hby d5_15) rfl ?_
    refine XS.sipush X22.here hx rfl (hb hby d5_17) ?_
    refine XS.icmpYes X22.here hx rfl (pc0 := 20) (pc' := 26) rfl (hb hby d5_20) rfl (flt (hc25 : ¬ ((255 : Int32) < p6))).2.2.2 (by decide) (by decide) ?_
    show Steps p.tables e below (T22.setTop (mkF m 26 #[vr a1, vi 2, vr a2, vi 2, vi 4, vi 2, vi p6] [])) _
    refine XS.aloadN X22.here hx rfl (hb hby d5_26) rfl rfl ?_
    refine XS.iloadN X22.here hx rfl (hb hby d5_27) rfl ?_
    refine XS.iload X22.here hx rfl (hb hby d5_28) rfl ?_
    refine XS.i2b X22.here hx rfl (hb hby d5_30) rfl ?_
    refine st28 _ ?_
    refine XS.iinc X28.here hx rfl (hb hby d5_32) rfl (l' := #[vr a1, vi 3, vr a2, vi 2, vi 4, vi 2, vi p6]) rfl ?_
    refine XS.iinc X28.here hx rfl (hb hby d5_35) rfl (l' := #[vr a1, vi 3, vr a2, vi 3, vi 4, vi 2, vi p6]) rfl ?_
    refine XS.iinc X28.here hx rfl (hb hby d5_38) rfl (l' := #[vr a1, vi 3, vr a2, vi 3, vi 4, vi 3, vi p6]) rfl ?_
    refine XS.goto X28.here hx rfl (pc0 := 41) (pc' := 3) rfl (hb hby d5_41) (by decide) (by decide) ?_
    refine XS.iload X28.here hx rfl (hb hby d5_3) rfl ?_
    show Steps p.tables e below (T28.setTop (mkF m 5 #[vr a1, vi 3, vr a2, vi 3, vi 4, vi 3, vi p6] [(.int 3)])) _
    refine XS.iload X28.here hx rfl (hb hby d5_5) rfl ?_
    refine XS.icmpNo X28.here hx rfl (hb hby d5_7) rfl (tlt ((by decide) : (3 : Int32) < (4 : Int32))).2.1 ?_
    refine XS.aloadN X28.here hx rfl (hb hby d5_10) rfl rfl ?_
    refine XS.iloadN X28.here hx rfl (hb hby d5_11) rfl ?_
    refine X28.caload hx (j := (3 : Int32)) (v := (.int p7)) (by rw [e28]; exact Ar30.1) (State.isArrayOf_alike hZ.alike Ar30.2.1) Ar30.2.2 hin30 hat30 (g := (mkF m 12 #[vr a1, vi 3, vr a2, vi 3, vi 4, vi 3, vi p6] [(.int 3), (.ref a1)])) rfl rfl (hb hby d5_12) _ ?_
    refine XS.istore X28.here hx rfl (hb hby d5_13) rfl (l' := #[vr a1, vi 3, vr a2, vi 3, vi 4, vi 3, vi p7]) rfl ?_
    refine XS.iload X28.here hx rfl (hb hby d5_15) rfl ?_
    refine XS.sipush X28.here hx rfl (hb hby d5_17) ?_
    refine XS.icmpYes X28.here hx rfl (pc0 := 20) (pc' := 26) rfl (hb hby d5_20) rfl (flt (hc31 : ¬ ((255 : Int32) < p7))).2.2.2 (by decide) (by decide) ?_
    refine XS.aloadN X28.here hx rfl (hb hby d5_26) rfl rfl ?_
    show Steps p.tables e below (T28.setTop (mkF m 27 #[vr a1, vi 3, vr a2, vi 3, vi 4, vi 3, vi p7] [(.ref a2)])) _
    refine XS.iloadN X28.here hx rfl (hb hby d5_27) rfl ?_
    refine XS.iload X28.here hx rfl (hb hby d5_28) rfl ?_
    refine XS.i2b X28.here hx rfl (hb hby d5_30) rfl ?_
    refine st34 _ ?_
    refine XS.iinc X34.here hx rfl (hb hby d5_32) rfl (l' := #[vr a1, vi 4, vr a2, vi 3, vi 4, vi 3, vi p7]) rfl ?_
    refine XS.iinc X34.here hx rfl (hb hby d5_35) rfl (l' := #[vr a1, vi 4, vr a2, vi 4, vi 4, vi 3, vi p7]) rfl ?_
    refine XS.iinc X34.here hx rfl (hb hby d5_38) rfl (l' := #[vr a1, vi 4, vr a2, vi 4, vi 4, vi 4, vi p7]) rfl ?_
    refine XS.goto X34.here hx rfl (pc0 := 41) (pc' := 3) rfl (hb hby d5_41) (by decide) (by decide) ?_
    refine XS.iload X34.here hx rfl (hb hby d5_3) rfl ?_
    refine XS.iload X34.here hx rfl (hb hby d5_5) rfl ?_
    show Steps p.tables e below (T34.setTop (mkF m 7 #[vr a1, vi 4, vr a2, vi 4, vi 4, vi 4, vi p7] [(.int 4), (.int 4)])) _
    refine XS.icmpYes X34.here hx rfl (pc0 := 7) (pc' := 44) rfl (hb hby d5_7) rfl (flt ((by decide) : ¬ ((4 : Int32) < (4 : Int32)))).2.1 (by decide) (by decide) ?_
    refine XS.iload X34.here hx rfl (hb hby d5_44) rfl ?_
    exact retI X34 hx Bd.returns (hb hby d5_46) hr
  · show Qrm5_1 Z a1 a2 k3 p4 p5 p6 p7 k11 h0 n0 _ T34.heap _
    rw [e34]
    exact ⟨rfl, N34, K34, Vw34, f35⟩
def Qrm4_1 (Z : State) (a1 : Addr) (k3 : ClassId) (p4 : Int32) (p5 : Int32) (p6 : Int32) (p7 : Int32) (h0 : Heap) (n0 : Nat) (v : Option Value) (h : Heap) (L : List Loc) : Prop := ∃ b2 : Addr, ∃ k2 : ClassId, v = some (.ref b2) ∧ Fr n0 L ∧ Keep h0 h [] ∧ h0.size ≤ b2 ∧ Exa Z h b2 "[B" ∧ Arv Z h b2 k2 .byte (4 : Int32) [(.int (nar .byte (p4.toInt8.toInt32))), (.int (nar .byte (p5.toInt8.toInt32))), (.int (nar .byte (p6.toInt8.toInt32))), (.int (nar .byte (p7.toInt8.toInt32)))] (.int 0)
set_option maxRecDepth 65536 in
set_option maxHeartbeats 40000000 in
theorem rm4_1 (l : Launch) (Z : State) (a0 : Array Value) (hw : ∀ d ∈ tables_1, d.before a0 Z = true) (ws : List Jvm.Cond) (a1 : Addr) (k3 : ClassId) (p4 : Int32) (p5 : Int32) (p6 : Int32) (p7 : Int32) (h0 : Heap) (n0 : Nat) (O0 : Old Z n0 h0) (V_8 : Arv Z h0 a1 k3 .char (4 : Int32) [(.int p4), (.int p5), (.int p6), (.int p7)] (.int 0)) (hc9 : ¬ ((255 : Int32) < p4)) (hc10 : ¬ ((255 : Int32) < p5)) (hc11 : ¬ ((255 : Int32) < p6)) (hc12 : ¬ ((255 : Int32) < p7)) :
    MF l Z h0 (⟨"java/lang/StringUTF16", "compress", "([CII)[B"⟩ : MethodName) jdk_52_method_16_code 6 (some (.array .byte)) ws (⟨1, 1, 4, 18⟩ : Room) #[(.ref a1), (.int 0), (.int 4)] (Qrm4_1 Z a1 k3 p4 p5 p6 p7 h0 n0) := by
  refine MetFree.of_bodySF (plainFor_of_name pn_0) hisR ?_
  intro p e s m args below meth c s₁ Bd hml0 hP hK
  obtain ⟨rfl, hZ, hh⟩ := hP
  have hx := Bd.exec
  have hby := Bd.bytes
  have hml : c.maxLocals = 6 := hml0
  have hown : s.vm.findClass "java/lang/StringUTF16" = some m.cls := findClass_of_methodNamed Bd.named
  have X0 : Stand p l e (⟨1, 1, 4, 18⟩ : Room) s m #[(.ref a1), (.int 0), (.int 4)] below meth c s₁ [] 0 0 := Stand.of_body Bd
  have e0 : s₁.heap = h0 := by rw [← hh, Bd.state]; rfl
  have N0 := Fr.nil n0
  have pre0 : ∀ t, Steps p.tables e below (s₁.setTop (mkF m 0 #[vr a1, vi 0, vi 4, .unset, .unset, .unset] [])) t → Steps p.tables e below (s₁.setTop (entryFrame m #[(.ref a1), (.int 0), (.int 4)] 6)) t := fun t k => castTop (ef_4_RII m a1 (0 : Int32) (4 : Int32)) k
  obtain ⟨T2, h2, k2, X2, e2, E2, A2, B2, st2⟩ := newPE X0 hx hZ (W hw 19 rfl) e0 (g := (mkF m 1 #[vr a1, vi 0, vi 4, .unset, .unset, .unset] [(.int 4)])) rfl (hb hby d4_1) rfl (by decide) (cap := 4) (by decide) (by decide) (by decide) (by decide) (ad := "[B") (by decide)
  obtain ⟨b2, g2⟩ : ∃ z, z = h0.size := ⟨_, rfl⟩
  rw [← g2] at A2 B2 st2
  have g_b2 := own_born O0 (own_eqle g2)
  have sz_b2 := Nat.le_trans (Keep.refl h0 []).1 (own_eqle g2)
  have K2 := (Keep.refl h0 []).ext E2
  have O2 := O0.ext E2
  have V2 : Arv Z h2 b2 k2 .byte (4 : Int32) [] (.int 0) := Arv.new A2 (by decide)
  have f13 := (V_8.ext E2)
  obtain ⟨_, T14, L14, X14, hQ14, st14⟩ := cS X2 hx hZ hown (W hw 20 rfl) (W hw 21 rfl) (W hw 17 rfl) (W hw 22 rfl) (by decide) (rm5_1 l Z a0 hw [] a1 b2 k3 p4 p5 p6 p7 k2 h2 n0 O2 f13 hc9 V2 g_b2 B2 (own_ltn V_8.lt sz_b2) hc10 hc11 hc12) e2 #[vr a1, vi 0, vi 4, vr b2, .unset, .unset] [] (by rw [hml]; rfl) (hb hby d4_9) pd_1 rfl (W := 0) (Nat.le_of_eq rfl) (by decide) (by decide) (by decide) (by decide)
  obtain ⟨rfl, Nq14, K14, P14_0, P14_1⟩ := hQ14
  have N14 := Fr.app N0 Nq14
  have KK14 := Keep.trans (h := h2) K2 K14 (allS (Or.inr sz_b2) all0)
  obtain ⟨fs, hr, hrun, hended, hW, hsame⟩ := X14.leave (v := some (.ref b2)) (fun h => by rw [Bd.returns] at h; cases h)
  refine ⟨_, _, pre0 _ ?_, hrun, hended, _, _, rfl, ?_, ⟨_, rfl⟩, hW, hsame.mono (by decide) (by decide)⟩
  · show Steps p.tables e below (s₁.setTop (mkF m 0 #[vr a1, vi 0, vi 4, .unset, .unset, .unset] [])) _
    refine XS.iloadN X0.here hx rfl (hb hby d4_0) rfl ?_
    refine st2 _ ?_
    refine XS.astoreN X2.here hx rfl (hb hby d4_3) rfl rfl (l' := #[vr a1, vi 0, vi 4, vr b2, .unset, .unset]) rfl ?_
    refine XS.aloadN X2.here hx rfl (hb hby d4_4) rfl rfl ?_
    refine XS.iloadN X2.here hx rfl (hb hby d4_5) rfl ?_
    refine XS.aloadN X2.here hx rfl (hb hby d4_6) rfl rfl ?_
    refine XS.iconst X2.here hx rfl (hb hby d4_7) ?_
    refine XS.iloadN X2.here hx rfl (hb hby d4_8) rfl ?_
    refine st14 _ ?_
    refine XS.istore X14.here hx rfl (hb hby d4_12) rfl (l' := #[vr a1, vi 0, vi 4, vr b2, vi 4, .unset]) rfl ?_
    show Steps p.tables e below (T14.setTop (mkF m 14 #[vr a1, vi 0, vi 4, vr b2, vi 4, .unset] [])) _
    refine XS.iload X14.here hx rfl (hb hby d4_14) rfl ?_
    refine XS.iloadN X14.here hx rfl (hb hby d4_16) rfl ?_
    refine XS.icmpYes X14.here hx rfl (pc0 := 17) (pc' := 57) rfl (hb hby d4_17) rfl (teq ((by decide) : (4 : Int32) = (4 : Int32))).1 (by decide) (by decide) ?_
    refine XS.aloadN X14.here hx rfl (hb hby d4_57) rfl rfl ?_
    jvm_step X14.here [X14.here.top, hx, (hb hby d4_58), X14.method', Bd.returns, Value.isRef, FieldType.isReference]
    first | (intro acts; rw [hr _ acts rfl rfl rfl]) | rw [hr _ _ rfl rfl rfl]
    exact Steps.refl _
  · show Qrm4_1 Z a1 k3 p4 p5 p6 p7 h0 n0 _ T14.heap _
    exact ⟨b2, k2, rfl, N14, KK14, sz_b2, P14_1, P14_0⟩
def Qrm6_1 (Z : State) (a1 : Addr) (k2 : ClassId) (p3 : Int32) (p4 : Int32) (p5 : Int32) (p6 : Int32) (h0 : Heap) (n0 : Nat) (v : Option Value) (h : Heap) (L : List Loc) : Prop := v = some (.int 0) ∧ Fr n0 L ∧ h = h0
set_option maxRecDepth 65536 in
set_option maxHeartbeats 40000000 in
theorem rm6_1 (l : Launch) (Z : State) (a0 : Array Value) (hw : ∀ d ∈ tables_1, d.before a0 Z = true) (ws : List Jvm.Cond) (a1 : Addr) (k2 : ClassId) (p3 : Int32) (p4 : Int32) (p5 : Int32) (p6 : Int32) (h0 : Heap) (n0 : Nat) (O0 : Old Z n0 h0) (V_7 : Arv Z h0 a1 k2 .byte (4 : Int32) [(.int p3), (.int p4), (.int p5), (.int p6)] (.int 0)) :
    MF l Z h0 (⟨"java/lang/StringUTF16", "coderFromArrayLen", "([BI)B"⟩ : MethodName) jdk_52_method_15_code 2 (some .byte) ws (⟨0, 0, 0, 0⟩ : Room) #[(.ref a1), (.int 4)] (Qrm6_1 Z a1 k2 p3 p4 p5 p6 h0 n0) := by
  refine MetFree.of_bodySF (plainFor_of_name pn_0) hisR ?_
  intro p e s m args below meth c s₁ Bd hml0 hP hK
  obtain ⟨rfl, hZ, hh⟩ := hP
  have hx := Bd.exec
  have hby := Bd.bytes
  have X0 : Stand p l e (⟨0, 0, 0, 0⟩ : Room) s m #[(.ref a1), (.int 4)] below meth c s₁ [] 0 0 := Stand.of_body Bd
  have e0 : s₁.heap = h0 := by rw [← hh, Bd.state]; rfl
  have N0 := Fr.nil n0
  have pre0 : ∀ t, Steps p.tables e below (s₁.setTop (mkF m 0 #[vr a1, vi 4] [])) t → Steps p.tables e below (s₁.setTop (entryFrame m #[(.ref a1), (.int 4)] 2)) t := fun t k => castTop (ef_6_RI m a1 (4 : Int32)) k
  obtain ⟨cl8, Ar8, q8, S8, M8, Hs8, G8⟩ := id V_7
  obtain ⟨fs, hr, hrun, hended, hW, hsame⟩ := X0.leave (v := some (.int 0)) (fun h => by rw [Bd.returns] at h; cases h)
  refine ⟨_, _, pre0 _ ?_, hrun, hended, _, _, rfl, ?_, ⟨_, rfl⟩, hW, hsame.mono (by decide) (by decide)⟩
  · show Steps p.tables e below (s₁.setTop (mkF m 0 #[vr a1, vi 4] [])) _
    refine XS.iloadN X0.here hx rfl (hb hby d6_0) rfl ?_
    refine XS.aloadN X0.here hx rfl (hb hby d6_1) rfl rfl ?_
    refine X0.arraylength hx (by rw [e0]; exact Ar8.1) (State.isArrayOf_alike hZ.alike Ar8.2.1) (g := (mkF m 2 #[vr a1, vi 4] [(.ref a1), (.int 4)])) rfl rfl (hb hby d6_2) _ ?_
    rw [len_of S8 M8]
    refine XS.isub X0.here hx rfl (hb hby d6_3) rfl ?_
    show Steps p.tables e below (s₁.setTop (mkF m 4 #[vr a1, vi 4] [(.int ((4 : Int32) - (4 : Int32)))])) _
    rw [show ((4 : Int32) - (4 : Int32)) = (0 : Int32) from by decide]
    refine XS.bipush X0.here hx rfl (hb hby d6_4) ?_
    refine XS.iushr X0.here hx rfl (hb hby d6_6) rfl ?_
    show Steps p.tables e below (s₁.setTop (mkF m 7 #[vr a1, vi 4] [(.int (((0 : Int32).toUInt32 >>> ((31 : Int32) &&& 31).toUInt32).toInt32))])) _
    rw [show (((0 : Int32).toUInt32 >>> ((31 : Int32) &&& 31).toUInt32).toInt32) = (0 : Int32) from by decide]
    refine XS.i2b X0.here hx rfl (hb hby d6_7) rfl ?_
    show Steps p.tables e below (s₁.setTop (mkF m 8 #[vr a1, vi 4] [(.int ((0 : Int32).toInt8.toInt32))])) _
    rw [show ((0 : Int32).toInt8.toInt32) = (0 : Int32) from by decide]
    exact retN X0 hx (t := .byte) Bd.returns (by simp) (hb hby d6_8) hr
  · show Qrm6_1 Z a1 k2 p3 p4 p5 p6 h0 n0 _ s₁.heap _
    rw [e0]
    exact ⟨rfl, N0, rfl⟩
def Qrm2_1 (Z : State) (a1 : Addr) (a2 : Addr) (p4 : Int32) (k8 : ClassId) (p9 : Int32) (p10 : Int32) (p11 : Int32) (p12 : Int32) (h0 : Heap) (n0 : Nat) (v : Option Value) (h : Heap) (L : List Loc) : Prop := ∃ b19 : Addr, ∃ k20 : ClassId, v = none ∧ Fr n0 L ∧ Keep h0 h [a1] ∧ h0.size ≤ b19 ∧ Exa Z h a1 "java/lang/String" ∧ Fld Z h a1 "java/lang/String" "coder" "B" (.int 0) ∧ Fld Z h a1 "java/lang/String" "value" "[B" (.ref b19) ∧ Exa Z h b19 "[B" ∧ Arv Z h b19 k20 .byte (4 : Int32) [(.int (nar .byte (p9.toInt8.toInt32))), (.int (nar .byte (p10.toInt8.toInt32))), (.int (nar .byte (p11.toInt8.toInt32))), (.int (nar .byte (p12.toInt8.toInt32)))] (.int 0)
set_option maxRecDepth 65536 in
set_option maxHeartbeats 40000000 in
theorem rm2_1 (l : Launch) (Z : State) (a0 : Array Value) (hw : ∀ d ∈ tables_1, d.before a0 Z = true) (ws : List Jvm.Cond) (a1 : Addr) (a2 : Addr) (p4 : Int32) (k8 : ClassId) (p9 : Int32) (p10 : Int32) (p11 : Int32) (p12 : Int32) (h0 : Heap) (n0 : Nat) (O0 : Old Z n0 h0) (S_5 : Sta Z Z.heap "java/lang/String" "COMPACT_STRINGS" "Z" (.int p4)) (hc7 : ¬ (p4 = (0 : Int32))) (V_13 : Arv Z h0 a2 k8 .char (4 : Int32) [(.int p9), (.int p10), (.int p11), (.int p12)] (.int 0)) (hc14 : ¬ ((255 : Int32) < p9)) (hc15 : ¬ ((255 : Int32) < p10)) (hc16 : ¬ ((255 : Int32) < p11)) (hc17 : ¬ ((255 : Int32) < p12)) (E_23 : Exa Z h0 a1 "java/lang/String") (F_24 : Fld Z h0 a1 "java/lang/String" "coder" "B" (.int 0)) (g_a1 : n0 ≤ a1) (F_28 : Fld Z h0 a1 "java/lang/String" "value" "[B" .null) :
    MF l Z h0 (⟨"java/lang/String", "<init>", "([CIILjava/lang/Void;)V"⟩ : MethodName) jdk_42_method_149_code 6 none ws (⟨2, 1, 4, 35⟩ : Room) #[(.ref a1), (.ref a2), (.int 0), (.int 4), .null] (Qrm2_1 Z a1 a2 p4 k8 p9 p10 p11 p12 h0 n0) := by
  refine MetFree.of_bodySF (plainFor_of_name pn_4) hisR ?_
  intro p e s m args below meth c s₁ Bd hml0 hP hK
  obtain ⟨rfl, hZ, hh⟩ := hP
  have hx := Bd.exec
  have hby := Bd.bytes
  have hml : c.maxLocals = 6 := hml0
  have hown : s.vm.findClass "java/lang/String" = some m.cls := findClass_of_methodNamed Bd.named
  have hnm := (name_of_methodNamed Bd.named Bd.method).1
  have X0 : Stand p l e (⟨2, 1, 4, 35⟩ : Room) s m #[(.ref a1), (.ref a2), (.int 0), (.int 4), .null] below meth c s₁ [] 0 0 := Stand.of_body Bd
  have e0 : s₁.heap = h0 := by rw [← hh, Bd.state]; rfl
  have N0 := Fr.nil n0
  have pre0 : ∀ t, Steps p.tables e below (s₁.setTop (mkF m 0 #[vr a1, vr a2, vi 0, vi 4, .val .null, .unset] [])) t → Steps p.tables e below (s₁.setTop (entryFrame m #[(.ref a1), (.ref a2), (.int 0), (.int 4), .null] 6)) t := fun t k => castTop (ef_2_RRIIn m a1 a2 (0 : Int32) (4 : Int32)) k
  obtain ⟨T3, X3, e3, st3⟩ := initO X0 hx hZ hown (W hw 11 rfl) (W hw 12 rfl) (W hw 13 rfl) e0 (g := (mkF m 1 #[vr a1, vr a2, vi 0, vi 4, .val .null, .unset] [(.ref a1)])) rfl (by rw [hml]; rfl) rfl (hb hby d2_1) (by decide) (W := 0) (by show 2 * 0 + _ ≤ _; exact Nat.le_of_eq rfl) (by decide)
  obtain ⟨T6, X6, e6, st6⟩ := getS2 X3 hx hZ hown (host := "") (Or.inl (W hw 14 rfl)) Via.refl e3 (S_5.ext O0.2) (g := (mkF m 27 #[vr a1, vr a2, vi 0, vi 4, .val .null, .unset] [])) rfl (hb hby d2_27)
  obtain ⟨_, T18, L18, X18, hQ18, st18⟩ := cS X6 hx hZ hown (W hw 15 rfl) (W hw 16 rfl) (W hw 17 rfl) (W hw 18 rfl) (by decide) (rm4_1 l Z a0 hw [] a2 k8 p9 p10 p11 p12 h0 n0 O0 V_13 hc14 hc15 hc16 hc17) e6 #[vr a1, vr a2, vi 0, vi 4, .val .null, .unset] [] (by rw [hml]; rfl) (hb hby d2_36) pd_2 rfl (W := 0) (Nat.le_of_eq rfl) (by decide) (by decide) (by decide) (by decide)
  obtain ⟨b19, k20, rfl, Nq18, K18, sq18_b19, P18_0, P18_1⟩ := hQ18
  have N18 := Fr.app N0 Nq18
  have sz_b19 := Nat.le_trans (Keep.refl h0 [a1]).1 sq18_b19
  have KK18 := Keep.trans (h := h0) (Keep.refl h0 [a1]) K18 all0
  have O18 := O0.keep K18 all0
  obtain ⟨_, T22, L22, X22, hQ22, st22⟩ := cS X18 hx hZ hown (W hw 23 rfl) (W hw 24 rfl) (W hw 17 rfl) (W hw 25 rfl) (by decide) (rm6_1 l Z a0 hw [] b19 k20 (nar .byte (p9.toInt8.toInt32)) (nar .byte (p10.toInt8.toInt32)) (nar .byte (p11.toInt8.toInt32)) (nar .byte (p12.toInt8.toInt32)) T18.heap n0 O18 P18_1) rfl #[vr a1, vr a2, vi 0, vi 4, .val .null, vr b19] [(.ref a1)] (by rw [hml]; rfl) (hb hby d2_45) pd_3 rfl (W := 1) (Nat.le_of_eq rfl) (by decide) (by decide) (by decide) (by decide)
  obtain ⟨rfl, Nq22, e22⟩ := hQ22
  have N22 := Fr.app N18 Nq22
  have f25 := (F_24.keep K18 nin0)
  have f26 := (E_23.keep K18)
  obtain ⟨T27, h27, X27, e27, W27, st27⟩ := putFN X22 hx hZ hown (W hw 26 rfl) Via.refl e22 f25 f26 (Or.inr ⟨(W hw 27 rfl), rfl, hnm⟩) (W hw 1 rfl) (ty := .byte) (v' := (.int 0)) (by decide) rfl rfl (g := (mkF m 48 #[vr a1, vr a2, vi 0, vi 4, .val .null, vr b19] [(.int 0), (.ref a1)])) rfl rfl (hb hby d2_48)
  have K27 := KK18.wr W27 (Or.inl (List.mem_of_getElem? (i := 0) rfl))
  have N27 := Fr.snoc X27 N22 g_a1
  have Fw27 := f25.same W27
  have f29 := ((F_28.keep K18 nin0).other W27 (Or.inr (slot_ne (Or.inr (W hw 29 rfl)) (Or.inr (W hw 27 rfl)) (by decide) (t := (.array .byte)) (t' := .byte) (by decide) (by decide))))
  have f30 := (f26.wr W27)
  obtain ⟨T31, h31, X31, e31, W31, st31⟩ := putF X27 hx hZ hown (host := "") (Or.inl (W hw 28 rfl)) Via.refl e27 f29 f30 (Or.inr ⟨(W hw 29 rfl), rfl, hnm⟩) (W hw 1 rfl) (ty := (.array .byte)) (by decide) rfl rfl (g := (mkF m 54 #[vr a1, vr a2, vi 0, vi 4, .val .null, vr b19] [(.ref b19), (.ref a1)])) rfl rfl (hb hby d2_54)
  have K31 := K27.wr W31 (Or.inl (List.mem_of_getElem? (i := 0) rfl))
  have N31 := Fr.snoc X31 N27 g_a1
  have Fw31 := f29.same W31
  have f32 := (f30.wr W31)
  have f33 := (Fw27.other W31 (Or.inr (slot_ne (Or.inr (W hw 27 rfl)) (Or.inr (W hw 29 rfl)) (by decide) (t := .byte) (t' := (.array .byte)) (by decide) (by decide))))
  have f34 := ((P18_0.wr W27).wr W31)
  have f35 := ((P18_1.other W27 (Ne.symm (own_ltn E_23.lt sz_b19))).other W31 (Ne.symm (own_ltn E_23.lt sz_b19)))
  obtain ⟨fs, hr, hrun, hended, hW, hsame⟩ := X31.leave (v := none) (fun _ => rfl)
  refine ⟨_, _, pre0 _ ?_, hrun, hended, _, _, rfl, ?_, ⟨_, rfl⟩, hW, hsame.mono (by decide) (by decide)⟩
  · show Steps p.tables e below (s₁.setTop (mkF m 0 #[vr a1, vr a2, vi 0, vi 4, .val .null, .unset] [])) _
    refine XS.aloadN X0.here hx rfl (hb hby d2_0) rfl rfl ?_
    refine st3 _ ?_
    refine XS.iloadN X3.here hx rfl (hb hby d2_4) rfl ?_
    refine XS.ifYes X3.here hx rfl (pc0 := 5) (pc' := 27) rfl (hb hby d2_5) rfl ((if0 _ _).trans (feq ((by decide) : ¬ ((4 : Int32) = (0 : Int32)))).2) (by decide) (by decide) ?_
    refine st6 _ ?_
    refine XS.ifNo X6.here hx rfl (hb hby d2_30) rfl ((if0 _ _).trans (feq (hc7 : ¬ (p4 = (0 : Int32)))).1) ?_
    refine XS.aloadN X6.here hx rfl (hb hby d2_33) rfl rfl ?_
    refine XS.iloadN X6.here hx rfl (hb hby d2_34) rfl ?_
    refine XS.iloadN X6.here hx rfl (hb hby d2_35) rfl ?_
    refine st18 _ ?_
    show Steps p.tables e below (T18.setTop (mkF m 39 #[vr a1, vr a2, vi 0, vi 4, .val .null, .unset] [(.ref b19)])) _
    refine XS.astore X18.here hx rfl (hb hby d2_39) rfl rfl (l' := #[vr a1, vr a2, vi 0, vi 4, .val .null, vr b19]) rfl ?_
    refine XS.aloadN X18.here hx rfl (hb hby d2_41) rfl rfl ?_
    refine XS.aload X18.here hx rfl (hb hby d2_42) rfl rfl ?_
    refine XS.iloadN X18.here hx rfl (hb hby d2_44) rfl ?_
    refine st22 _ ?_
    refine st27 _ ?_
    refine XS.aloadN X27.here hx rfl (hb hby d2_51) rfl rfl ?_
    refine XS.aload X27.here hx rfl (hb hby d2_52) rfl rfl ?_
    refine st31 _ ?_
    exact X31.returnOut hx Bd.returns (hb hby d2_57) hr
  · show Qrm2_1 Z a1 a2 p4 k8 p9 p10 p11 p12 h0 n0 _ T31.heap _
    rw [e31]
    exact ⟨b19, k20, rfl, N31, K31, sz_b19, f32, f33, Fw31, f34, f35⟩
def Qrm1_1 (Z : State) (a1 : Addr) (a2 : Addr) (k3 : ClassId) (p4 : Int32) (p5 : Int32) (p6 : Int32) (p7 : Int32) (p10 : Int32) (h0 : Heap) (n0 : Nat) (v : Option Value) (h : Heap) (L : List Loc) : Prop := ∃ b21 : Addr, ∃ k22 : ClassId, v = none ∧ Fr n0 L ∧ Keep h0 h [a1] ∧ h0.size ≤ b21 ∧ Exa Z h a1 "java/lang/String" ∧ Fld Z h a1 "java/lang/String" "coder" "B" (.int 0) ∧ Fld Z h a1 "java/lang/String" "value" "[B" (.ref b21) ∧ Exa Z h b21 "[B" ∧ Arv Z h b21 k22 .byte (4 : Int32) [(.int (nar .byte (p4.toInt8.toInt32))), (.int (nar .byte (p5.toInt8.toInt32))), (.int (nar .byte (p6.toInt8.toInt32))), (.int (nar .byte (p7.toInt8.toInt32)))] (.int 0)
set_option maxRecDepth 65536 in
set_option maxHeartbeats 40000000 in
theorem rm1_1 (l : Launch) (Z : State) (a0 : Array Value) (hw : ∀ d ∈ tables_1, d.before a0 Z = true) (ws : List Jvm.Cond) (a1 : Addr) (a2 : Addr) (k3 : ClassId) (p4 : Int32) (p5 : Int32) (p6 : Int32) (p7 : Int32) (p10 : Int32) (h0 : Heap) (n0 : Nat) (O0 : Old Z n0 h0) (V_8 : Arv Z h0 a2 k3 .char (4 : Int32) [(.int p4), (.int p5), (.int p6), (.int p7)] (.int 0)) (S_11 : Sta Z Z.heap "java/lang/String" "COMPACT_STRINGS" "Z" (.int p10)) (hc12 : ¬ (p10 = (0 : Int32))) (hc13 : ¬ ((255 : Int32) < p4)) (hc14 : ¬ ((255 : Int32) < p5)) (hc15 : ¬ ((255 : Int32) < p6)) (hc16 : ¬ ((255 : Int32) < p7)) (E_17 : Exa Z h0 a1 "java/lang/String") (F_18 : Fld Z h0 a1 "java/lang/String" "coder" "B" (.int 0)) (g_a1 : n0 ≤ a1) (F_19 : Fld Z h0 a1 "java/lang/String" "value" "[B" .null) :
    MF l Z h0 (⟨"java/lang/String", "<init>", "([C)V"⟩ : MethodName) jdk_42_method_3_code 2 none ws (⟨3, 1, 4, 52⟩ : Room) #[(.ref a1), (.ref a2)] (Qrm1_1 Z a1 a2 k3 p4 p5 p6 p7 p10 h0 n0) := by
  refine MetFree.of_bodySF (plainFor_of_name pn_4) hisR ?_
  intro p e s m args below meth c s₁ Bd hml0 hP hK
  obtain ⟨rfl, hZ, hh⟩ := hP
  have hx := Bd.exec
  have hby := Bd.bytes
  have hml : c.maxLocals = 2 := hml0
  have hown : s.vm.findClass "java/lang/String" = some m.cls := findClass_of_methodNamed Bd.named
  have X0 : Stand p l e (⟨3, 1, 4, 52⟩ : Room) s m #[(.ref a1), (.ref a2)] below meth c s₁ [] 0 0 := Stand.of_body Bd
  have e0 : s₁.heap = h0 := by rw [← hh, Bd.state]; rfl
  have N0 := Fr.nil n0
  have pre0 : ∀ t, Steps p.tables e below (s₁.setTop (mkF m 0 #[vr a1, vr a2] [])) t → Steps p.tables e below (s₁.setTop (entryFrame m #[(.ref a1), (.ref a2)] 2)) t := fun t k => castTop (ef_1_RR m a1 a2) k
  obtain ⟨cl9, Ar9, q9, S9, M9, Hs9, G9⟩ := id V_8
  obtain ⟨_, T20, L20, X20, hQ20, st20⟩ := cI X0 hx hZ hown (W hw 7 rfl) (W hw 8 rfl) (W hw 10 rfl) (W hw 2 rfl) rfl (by decide) (rm2_1 l Z a0 hw [] a1 a2 p10 k3 p4 p5 p6 p7 h0 n0 O0 S_11 hc12 V_8 hc13 hc14 hc15 hc16 E_17 F_18 g_a1 F_19) e0 #[vr a1, vr a2] [] (by rw [hml]; rfl) (hb hby d1_6) pd_5 rfl (W := 0) (Nat.le_of_eq rfl) (by decide) (by decide) (by decide) (by decide)
  obtain ⟨b21, k22, rfl, Nq20, K20, sq20_b21, P20_0, P20_1, P20_2, P20_3, P20_4⟩ := hQ20
  have N20 := Fr.app N0 Nq20
  have sz_b21 := Nat.le_trans (Keep.refl h0 [a1]).1 sq20_b21
  have KK20 := Keep.trans (h := h0) (Keep.refl h0 [a1]) K20 (allS (Or.inl (List.mem_of_getElem? (i := 0) rfl)) all0)
  obtain ⟨fs, hr, hrun, hended, hW, hsame⟩ := X20.leave (v := none) (fun _ => rfl)
  refine ⟨_, _, pre0 _ ?_, hrun, hended, _, _, rfl, ?_, ⟨_, rfl⟩, hW, hsame.mono (by decide) (by decide)⟩
  · show Steps p.tables e below (s₁.setTop (mkF m 0 #[vr a1, vr a2] [])) _
    refine XS.aloadN X0.here hx rfl (hb hby d1_0) rfl rfl ?_
    refine XS.aloadN X0.here hx rfl (hb hby d1_1) rfl rfl ?_
    refine XS.iconst X0.here hx rfl (hb hby d1_2) ?_
    refine XS.aloadN X0.here hx rfl (hb hby d1_3) rfl rfl ?_
    refine X0.arraylength hx (by rw [e0]; exact Ar9.1) (State.isArrayOf_alike hZ.alike Ar9.2.1) (g := (mkF m 4 #[vr a1, vr a2] [(.ref a2), (.int 0), (.ref a2), (.ref a1)])) rfl rfl (hb hby d1_4) _ ?_
    rw [len_of S9 M9]
    refine XS.aconstNull X0.here hx rfl (hb hby d1_5) ?_
    refine st20 _ ?_
    exact X20.returnOut hx Bd.returns (hb hby d1_9) hr
  · show Qrm1_1 Z a1 a2 k3 p4 p5 p6 p7 p10 h0 n0 _ T20.heap _
    exact ⟨b21, k22, rfl, N20, KK20, sz_b21, P20_0, P20_1, P20_2, P20_3, P20_4⟩
set_option maxRecDepth 65536 in
set_option maxHeartbeats 40000000 in
theorem sg0_189_213_1 {p : Program} {l : Launch} {e : Env} {R : Room} {s : State} {m : MethodId} {args : Array Value} {below : List Frame} {meth : Method} {c : Code} {T0 : State} {locs : List Loc} {cells slots : Nat} {Z : State} {a0 : Array Value} (hw : ∀ d ∈ tables_1, d.before a0 Z = true) (p1 : Int32) (p2 : Int32) (p3 : Int32) (p4 : Int32) (p5 : Int32) (p6 : Int32) (p7 : Int32) (p8 : Int32) (p9 : Int32) (a10 : Addr) (p11 : Int32) (p12 : Int32) (p13 : Int32) (a24 : Addr) (k27 : ClassId) (h0 : Heap) (n0 : Nat) (O0 : Old Z n0 h0) (S_14 : Sta Z Z.heap "java/lang/String" "COMPACT_STRINGS" "Z" (.int p13)) (hc15 : ¬ (p13 = (0 : Int32))) (hc16 : ¬ ((255 : Int32) < p7)) (S_25 : Sta Z Z.heap "java/util/ArrayList" "DEFAULTCAPACITY_EMPTY_ELEMENTDATA" "[Ljava/lang/Object;" (.ref a24)) (V_28 : Arv Z Z.heap a24 k27 (.object "java/lang/Object") (0 : Int32) [] .null) (E_29 : Exa Z h0 a10 "java/lang/String")
    (X0 : Stand p l e R s m args below meth c T0 locs cells slots) (hx : p.tables.exec = Jvm.exec) (hZ : Z.Warmed39 s.vm) (hby : c.code = code) (hml : c.maxLocals = 18) (hown : s.vm.findClass "com/example/runqueue/runqueue/ArgumentsFlagPinLaw" = some m.cls) (e0 : T0.heap = h0) (N0 : Fr n0 locs) (hrc : cells + 4 ≤ R.cells) (hrs : slots + 18 ≤ R.slots) (hrf : 5 ≤ R.frames) (hrl : 69 ≤ R.locals) :
    ∃ (T' : State) (L' : List Loc), Stand p l e R s m args below meth c T' L' (cells + 4) (slots + 18) ∧ Fr n0 L' ∧ (∃ b18 : Addr, ∃ b21 : Addr, ∃ b19 : Addr, ∃ b32 : Addr, ∃ k20 : ClassId, ∃ k33 : ClassId, Keep h0 T'.heap [] ∧ h0.size ≤ b18 ∧ h0.size ≤ b21 ∧ h0.size ≤ b19 ∧ h0.size ≤ b32 ∧ b18 ≠ b21 ∧ b18 ≠ b19 ∧ b18 ≠ b32 ∧ b21 ≠ b19 ∧ b21 ≠ b32 ∧ b19 ≠ b32 ∧ Exa Z T'.heap b18 "java/lang/String" ∧ Fld Z T'.heap b18 "java/lang/String" "value" "[B" (.ref b19) ∧ Fld Z T'.heap b18 "java/lang/String" "coder" "B" (.int 0) ∧ Exa Z T'.heap b21 "java/util/ArrayList" ∧ Fld Z T'.heap b21 "java/util/ArrayList" "elementData" "[Ljava/lang/Object;" (.ref b32) ∧ Fld Z T'.heap b21 "java/util/ArrayList" "size" "I" (.int 1) ∧ Fld Z T'.heap b21 "java/util/AbstractList" "modCount" "I" (.int 1) ∧ Exa Z T'.heap b19 "[B" ∧ Arv Z T'.heap b19 k20 .byte (1 : Int32) [(.int (nar .byte (p7.toInt8.toInt32)))] (.int 0) ∧ Exa Z T'.heap b32 "[Ljava/lang/Object;" ∧ Ovr Z k33 "java/lang/Object" ∧ Arv Z T'.heap b32 k33 (.object "java/lang/Object") (10 : Int32) [(.ref a10)] .null ∧ (∀ t, Steps p.tables e below (T'.setTop (mkF m 213 #[vi p1, vi p2, vi p3, vi p4, vi p5, vi p6, vi p7, vi p8, vi p9, vr a10, vr b18, vr b21, .unset, .unset, .unset, .unset, .unset, .unset] [])) t → Steps p.tables e below (T0.setTop (mkF m 189 #[vi p1, vi p2, vi p3, vi p4, vi p5, vi p6, vi p7, vi p8, vi p9, vr a10, vi p11, vi p12, .unset, .unset, .unset, .unset, .unset, .unset] [])) t)) := by
  obtain ⟨_, T17, L17, X17, hQ17, st17⟩ := cS X0 hx hZ hown (W hw 30 rfl) (W hw 31 rfl) (W hw 2 rfl) (W hw 32 rfl) (by decide) (rm7 l Z a0 hw [] p7 p13 h0 n0 O0 S_14 hc15 hc16) e0 #[vi p1, vi p2, vi p3, vi p4, vi p5, vi p6, vi p7, vi p8, vi p9, vr a10, vi p11, vi p12, .unset, .unset, .unset, .unset, .unset, .unset] [] (by rw [hml]; rfl) (hb hby at_191) pd_11 rfl (W := 0) (Nat.le_of_eq rfl) (Nat.le_trans (by decide) hrf) (Nat.le_trans (by decide) hrl) (Nat.le_trans (by omega) hrc : cells + 2 ≤ R.cells) (Nat.le_trans (by omega) hrs : slots + 5 ≤ R.slots)
  obtain ⟨b18, b19, k20, rfl, Nq17, K17, sq17_b18, sq17_b19, P17_0, P17_1, P17_2, P17_3, P17_4, P17_5⟩ := hQ17
  have N17 := Fr.app N0 Nq17
  have sz_b18 := Nat.le_trans (Keep.refl h0 []).1 sq17_b18
  have sz_b19 := Nat.le_trans (Keep.refl h0 []).1 sq17_b19
  have KK17 := Keep.trans (h := h0) (Keep.refl h0 []) K17 all0
  have O17 := O0.keep K17 all0
  obtain ⟨T21, h21, X21, e21, E21, A21, D21, U21, st21⟩ := newO X17 hx hZ hown (W hw 44 rfl) (W hw 45 rfl) (W hw 46 rfl) rfl (g := (mkF m 196 #[vi p1, vi p2, vi p3, vi p4, vi p5, vi p6, vi p7, vi p8, vi p9, vr a10, vr b18, vi p12, .unset, .unset, .unset, .unset, .unset, .unset] [])) rfl (hb hby at_196) (Nat.le_trans (by omega) hrc : cells + 2 + 1 ≤ R.cells) (Nat.le_trans (by omega) hrs : slots + 5 + 3 ≤ R.slots)
  obtain ⟨b21, g21⟩ : ∃ z, z = T17.heap.size := ⟨_, rfl⟩
  rw [← g21] at A21 D21 U21 st21
  have ne22 := (own_ltn P17_1.lt (own_eqle g21))
  have ne23 := (own_ltn P17_4.lt (own_eqle g21))
  have g_b21 := own_born O17 (own_eqle g21)
  have sz_b21 := Nat.le_trans KK17.1 (own_eqle g21)
  have K21 := KK17.ext E21
  have O21 := O17.ext E21
  have F21_modCount : Fld Z h21 b21 "java/util/AbstractList" "modCount" "I" (.int 0) := D21 (Or.inl (W hw 64 rfl)) (ty := .int) (by decide)
  have F21_elementData : Fld Z h21 b21 "java/util/ArrayList" "elementData" "[Ljava/lang/Object;" .null := D21 (Or.inl (W hw 67 rfl)) (ty := (.array (.object "java/lang/Object"))) (by decide)
  have F21_size : Fld Z h21 b21 "java/util/ArrayList" "size" "I" (.int 0) := D21 (Or.inl (W hw 76 rfl)) (ty := .int) (by decide)
  obtain ⟨_, T26, L26, X26, hQ26, st26⟩ := cI X21 hx hZ hown (W hw 47 rfl) (W hw 48 rfl) (W hw 49 rfl) (W hw 46 rfl) rfl (by decide) (rm11 l Z a0 hw [] b21 a24 h21 n0 O21 A21 F21_modCount g_b21 F21_elementData F21_size S_25) e21 #[vi p1, vi p2, vi p3, vi p4, vi p5, vi p6, vi p7, vi p8, vi p9, vr a10, vr b18, vi p12, .unset, .unset, .unset, .unset, .unset, .unset] [(.ref b21)] (by rw [hml]; rfl) (hb hby at_200) pd_13 rfl (W := 1) (Nat.le_of_eq rfl) (Nat.le_trans (by decide) hrf) (Nat.le_trans (by decide) hrl) (Nat.le_trans (by omega) hrc : cells + 2 + 1 + 0 ≤ R.cells) (Nat.le_trans (by omega) hrs : slots + 5 + 3 + 0 ≤ R.slots)
  obtain ⟨rfl, Nq26, K26, P26_0, P26_1, P26_2, P26_3⟩ := hQ26
  have N26 := Fr.app N17 Nq26
  have KK26 := Keep.trans (h := h21) K21 K26 (allS (Or.inr sz_b21) all0)
  have O26 := O21.keep K26 (allS g_b21 all0)
  have f30 := (((E_29.keep K17).ext E21).keep K26)
  obtain ⟨_, T31, L31, X31, hQ31, st31⟩ := cV X26 hx hZ hown (W hw 68 rfl) (W hw 69 rfl) (notFace_of_selects (args := #[]) (mvT hZ (W hw 71 rfl))) (W hw 71 rfl) (W hw 70 rfl) (W hw 72 rfl) (W hw 46 rfl) (by decide) (rm14 l Z a0 hw [] b21 a10 a24 k27 T26.heap n0 O26 P26_1 P26_0 g_b21 P26_2 P26_3 V_28 S_25 f30) rfl P26_0 #[vi p1, vi p2, vi p3, vi p4, vi p5, vi p6, vi p7, vi p8, vi p9, vr a10, vr b18, vr b21, .unset, .unset, .unset, .unset, .unset, .unset] [] (by rw [hml]; rfl) (hb hby at_209) pd_20 rfl (W := 0) (Nat.le_of_eq rfl) (Nat.le_trans (by decide) hrf) (Nat.le_trans (by decide) hrl) (Nat.le_trans (by omega) hrc : cells + 2 + 1 + 0 + 1 ≤ R.cells) (Nat.le_trans (by omega) hrs : slots + 5 + 3 + 0 + 10 ≤ R.slots)
  obtain ⟨b32, k33, rfl, Nq31, K31, sq31_b32, P31_0, P31_1, P31_2, P31_3, P31_4, P31_5, P31_6⟩ := hQ31
  have N31 := Fr.app N26 Nq31
  have f34 := ((P17_1.ext E21).keep K26)
  have ne35 := (own_ltn f34.lt sq31_b32)
  have f36 := ((P17_4.ext E21).keep K26)
  have ne37 := (own_ltn f36.lt sq31_b32)
  have ne38 := (own_ltn P26_0.lt sq31_b32)
  have sz_b32 := Nat.le_trans KK26.1 sq31_b32
  have KK31 := Keep.trans (h := T26.heap) KK26 K31 (allS (Or.inr sz_b21) all0)
  have f40 := (f34.keep K31)
  have f41 := (((P17_2.ext E21).keep K26 (ninS ne22 nin0)).keep K31 (ninS ne22 nin0))
  have f42 := (((P17_3.ext E21).keep K26 (ninS ne22 nin0)).keep K31 (ninS ne22 nin0))
  have f43 := (f36.keep K31)
  have f44 := (((P17_5.ext E21).keep K26 (ninS ne23 nin0)).keep K31 (ninS ne23 nin0))
  refine ⟨T31, _, X31.more (show cells + 2 + 1 + 0 + 1 ≤ cells + 4 by omega) (show slots + 5 + 3 + 0 + 10 ≤ slots + 18 by omega), N31, ?_⟩
  refine ⟨b18, b21, b19, b32, k20, k33, KK31, sz_b18, sz_b21, sz_b19, sz_b32, ne22, P17_0, ne35, (Ne.symm ne23), ne38, ne37, f40, f41, f42, P31_0, P31_1, P31_2, P31_3, f43, f44, P31_4, P31_5, P31_6, fun t kt => ?_⟩
  show Steps p.tables e below (T0.setTop (mkF m 189 #[vi p1, vi p2, vi p3, vi p4, vi p5, vi p6, vi p7, vi p8, vi p9, vr a10, vi p11, vi p12, .unset, .unset, .unset, .unset, .unset, .unset] [])) _
  refine XS.iload X0.here hx rfl (hb hby at_189) rfl ?_
  refine st17 _ ?_
  refine XS.astore X17.here hx rfl (hb hby at_194) rfl rfl (l' := #[vi p1, vi p2, vi p3, vi p4, vi p5, vi p6, vi p7, vi p8, vi p9, vr a10, vr b18, vi p12, .unset, .unset, .unset, .unset, .unset, .unset]) rfl ?_
  refine st21 _ ?_
  refine XS.dup X21.here hx rfl (hb hby at_199) rfl rfl ?_
  refine st26 _ ?_
  refine XS.astore X26.here hx rfl (hb hby at_203) rfl rfl (l' := #[vi p1, vi p2, vi p3, vi p4, vi p5, vi p6, vi p7, vi p8, vi p9, vr a10, vr b18, vr b21, .unset, .unset, .unset, .unset, .unset, .unset]) rfl ?_
  refine XS.aload X26.here hx rfl (hb hby at_205) rfl rfl ?_
  refine XS.aload X26.here hx rfl (hb hby at_207) rfl rfl ?_
  refine st31 _ ?_
  show Steps p.tables e below (T31.setTop (mkF m 212 #[vi p1, vi p2, vi p3, vi p4, vi p5, vi p6, vi p7, vi p8, vi p9, vr a10, vr b18, vr b21, .unset, .unset, .unset, .unset, .unset, .unset] [(.int 1)])) _
  refine XS.pop X31.here hx rfl (hb hby at_212) rfl rfl ?_
  exact kt
def Qrm27_3 (Z : State) (a1 : Addr) (a2 : Addr) (k3 : ClassId) (p4 : Int32) (p5 : Int32) (p6 : Int32) (p7 : Int32) (k10 : ClassId) (h0 : Heap) (n0 : Nat) (v : Option Value) (h : Heap) (L : List Loc) : Prop := v = some (.int 0) ∧ Fr n0 L ∧ h = h0
set_option maxRecDepth 65536 in
set_option maxHeartbeats 40000000 in
theorem rm27_3 (l : Launch) (Z : State) (a0 : Array Value) (hw : ∀ d ∈ tables_1, d.before a0 Z = true) (ws : List Jvm.Cond) (a1 : Addr) (a2 : Addr) (k3 : ClassId) (p4 : Int32) (p5 : Int32) (p6 : Int32) (p7 : Int32) (k10 : ClassId) (h0 : Heap) (n0 : Nat) (O0 : Old Z n0 h0) (V_8 : Arv Z h0 a1 k3 .byte (4 : Int32) [(.int p4), (.int p5), (.int p6), (.int p7)] (.int 0)) (V_11 : Arv Z h0 a2 k10 .byte (2 : Int32) [(.int 45), (.int 45)] (.int (0 : Int32))) :
    MF l Z h0 (⟨"java/lang/StringLatin1", "equals", "([B[B)Z"⟩ : MethodName) jdk_43_method_13_code 3 (some .boolean) ws (⟨0, 0, 0, 0⟩ : Room) #[(.ref a1), (.ref a2)] (Qrm27_3 Z a1 a2 k3 p4 p5 p6 p7 k10 h0 n0) := by
  refine MetFree.of_bodySF (plainFor_of_name pn_7) hisR ?_
  intro p e s m args below meth c s₁ Bd hml0 hP hK
  obtain ⟨rfl, hZ, hh⟩ := hP
  have hx := Bd.exec
  have hby := Bd.bytes
  have X0 : Stand p l e (⟨0, 0, 0, 0⟩ : Room) s m #[(.ref a1), (.ref a2)] below meth c s₁ [] 0 0 := Stand.of_body Bd
  have e0 : s₁.heap = h0 := by rw [← hh, Bd.state]; rfl
  have N0 := Fr.nil n0
  have pre0 : ∀ t, Steps p.tables e below (s₁.setTop (mkF m 0 #[vr a1, vr a2, .unset] [])) t → Steps p.tables e below (s₁.setTop (entryFrame m #[(.ref a1), (.ref a2)] 3)) t := fun t k => castTop (ef_27_RR m a1 a2) k
  obtain ⟨cl9, Ar9, q9, S9, M9, Hs9, G9⟩ := id V_8
  obtain ⟨cl12, Ar12, q12, S12, M12, Hs12, G12⟩ := id V_11
  obtain ⟨fs, hr, hrun, hended, hW, hsame⟩ := X0.leave (v := some (.int 0)) (fun h => by rw [Bd.returns] at h; cases h)
  refine ⟨_, _, pre0 _ ?_, hrun, hended, _, _, rfl, ?_, ⟨_, rfl⟩, hW, hsame.mono (by decide) (by decide)⟩
  · show Steps p.tables e below (s₁.setTop (mkF m 0 #[vr a1, vr a2, .unset] [])) _
    refine XS.aloadN X0.here hx rfl (hb hby d27_0) rfl rfl ?_
    refine X0.arraylength hx (by rw [e0]; exact Ar9.1) (State.isArrayOf_alike hZ.alike Ar9.2.1) (g := (mkF m 1 #[vr a1, vr a2, .unset] [(.ref a1)])) rfl rfl (hb hby d27_1) _ ?_
    rw [len_of S9 M9]
    refine XS.aloadN X0.here hx rfl (hb hby d27_2) rfl rfl ?_
    refine X0.arraylength hx (by rw [e0]; exact Ar12.1) (State.isArrayOf_alike hZ.alike Ar12.2.1) (g := (mkF m 3 #[vr a1, vr a2, .unset] [(.ref a2), (.int 4)])) rfl rfl (hb hby d27_3) _ ?_
    rw [len_of S12 M12]
    refine XS.icmpYes X0.here hx rfl (pc0 := 4) (pc' := 34) rfl (hb hby d27_4) rfl (feq ((by decide) : ¬ ((4 : Int32) = (2 : Int32)))).2 (by decide) (by decide) ?_
    refine XS.iconst X0.here hx rfl (hb hby d27_34) ?_
    exact retN X0 hx (t := .boolean) Bd.returns (by simp) (hb hby d27_35) hr
  · show Qrm27_3 Z a1 a2 k3 p4 p5 p6 p7 k10 h0 n0 _ s₁.heap _
    rw [e0]
    exact ⟨rfl, N0, rfl⟩
def Qrm26_4 (Z : State) (a1 : Addr) (a2 : Addr) (p6 : Int32) (a14 : Addr) (a17 : Addr) (k20 : ClassId) (p21 : Int32) (p22 : Int32) (p23 : Int32) (p24 : Int32) (k26 : ClassId) (h0 : Heap) (n0 : Nat) (v : Option Value) (h : Heap) (L : List Loc) : Prop := v = some (.int 0) ∧ Fr n0 L ∧ h = h0
set_option maxRecDepth 65536 in
set_option maxHeartbeats 40000000 in
theorem rm26_4 (l : Launch) (Z : State) (a0 : Array Value) (hw : ∀ d ∈ tables_1, d.before a0 Z = true) (ws : List Jvm.Cond) (a1 : Addr) (a2 : Addr) (p6 : Int32) (a14 : Addr) (a17 : Addr) (k20 : ClassId) (p21 : Int32) (p22 : Int32) (p23 : Int32) (p24 : Int32) (k26 : ClassId) (h0 : Heap) (n0 : Nat) (O0 : Old Z n0 h0) (ne_a1_a2 : a1 ≠ a2) (E_3 : Exa Z h0 a2 "java/lang/String") (S_7 : Sta Z Z.heap "java/lang/String" "COMPACT_STRINGS" "Z" (.int p6)) (hc9 : ¬ (p6 = (0 : Int32))) (F_10 : Fld Z h0 a1 "java/lang/String" "coder" "B" (.int 0)) (F_12 : Fld Z h0 a2 "java/lang/String" "coder" "B" (.int 0)) (F_15 : Fld Z h0 a1 "java/lang/String" "value" "[B" (.ref a14)) (F_18 : Fld Z h0 a2 "java/lang/String" "value" "[B" (.ref a17)) (V_25 : Arv Z h0 a14 k20 .byte (4 : Int32) [(.int p21), (.int p22), (.int p23), (.int p24)] (.int 0)) (V_27 : Arv Z h0 a17 k26 .byte (2 : Int32) [(.int 45), (.int 45)] (.int (0 : Int32))) :
    MF l Z h0 (⟨"java/lang/String", "equals", "(Ljava/lang/Object;)Z"⟩ : MethodName) jdk_42_method_66_code 3 (some .boolean) ws (⟨1, 0, 0, 14⟩ : Room) #[(.ref a1), (.ref a2)] (Qrm26_4 Z a1 a2 p6 a14 a17 k20 p21 p22 p23 p24 k26 h0 n0) := by
  refine MetFree.of_bodySF (plainFor_of_name pn_4) hisR ?_
  intro p e s m args below meth c s₁ Bd hml0 hP hK
  obtain ⟨rfl, hZ, hh⟩ := hP
  have hx := Bd.exec
  have hby := Bd.bytes
  have hml : c.maxLocals = 3 := hml0
  have hown : s.vm.findClass "java/lang/String" = some m.cls := findClass_of_methodNamed Bd.named
  have X0 : Stand p l e (⟨1, 0, 0, 14⟩ : Room) s m #[(.ref a1), (.ref a2)] below meth c s₁ [] 0 0 := Stand.of_body Bd
  have e0 : s₁.heap = h0 := by rw [← hh, Bd.state]; rfl
  have N0 := Fr.nil n0
  have pre0 : ∀ t, Steps p.tables e below (s₁.setTop (mkF m 0 #[vr a1, vr a2, .unset] [])) t → Steps p.tables e below (s₁.setTop (entryFrame m #[(.ref a1), (.ref a2)] 3)) t := fun t k => castTop (ef_26_RR m a1 a2) k
  obtain ⟨T4, X4, e4, st4⟩ := instY X0 hx hZ hown (W hw 37 rfl) e0 (Ins.self E_3) (g := (mkF m 8 #[vr a1, vr a2, .unset] [(.ref a2)])) rfl rfl (hb hby d26_8)
  obtain ⟨T5, X5, e5, st5⟩ := castY X4 hx hZ hown (W hw 37 rfl) e4 (Ins.self E_3) (g := (mkF m 15 #[vr a1, vr a2, .unset] [(.ref a2)])) rfl rfl (hb hby d26_15)
  obtain ⟨T8, X8, e8, st8⟩ := getS2 X5 hx hZ hown (host := "") (Or.inl (W hw 14 rfl)) Via.refl e5 (S_7.ext O0.2) (g := (mkF m 19 #[vr a1, vr a2, vr a2] [])) rfl (hb hby d26_19)
  obtain ⟨T11, X11, e11, st11⟩ := getF X8 hx hZ hown (host := "") (Or.inl (W hw 26 rfl)) Via.refl e8 F_10 (g := (mkF m 26 #[vr a1, vr a2, vr a2] [(.ref a1)])) rfl rfl (hb hby d26_26)
  obtain ⟨T13, X13, e13, st13⟩ := getF X11 hx hZ hown (host := "") (Or.inl (W hw 26 rfl)) Via.refl e11 F_12 (g := (mkF m 30 #[vr a1, vr a2, vr a2] [(.ref a2), (.int 0)])) rfl rfl (hb hby d26_30)
  obtain ⟨T16, X16, e16, st16⟩ := getF X13 hx hZ hown (host := "") (Or.inl (W hw 28 rfl)) Via.refl e13 F_15 (g := (mkF m 37 #[vr a1, vr a2, vr a2] [(.ref a1)])) rfl rfl (hb hby d26_37)
  obtain ⟨T19, X19, e19, st19⟩ := getF X16 hx hZ hown (host := "") (Or.inl (W hw 28 rfl)) Via.refl e16 F_18 (g := (mkF m 41 #[vr a1, vr a2, vr a2] [(.ref a2), (.ref a14)])) rfl rfl (hb hby d26_41)
  obtain ⟨_, T28, L28, X28, hQ28, st28⟩ := cS X19 hx hZ hown (W hw 154 rfl) (W hw 155 rfl) (W hw 35 rfl) (W hw 156 rfl) (by decide) (rm27_3 l Z a0 hw [] a14 a17 k20 p21 p22 p23 p24 k26 h0 n0 O0 V_25 V_27) e19 #[vr a1, vr a2, vr a2] [] (by rw [hml]; rfl) (hb hby d26_44) pd_28 rfl (W := 0) (Nat.le_of_eq rfl) (by decide) (by decide) (by decide) (by decide)
  obtain ⟨rfl, Nq28, e28⟩ := hQ28
  have N28 := Fr.app N0 Nq28
  obtain ⟨fs, hr, hrun, hended, hW, hsame⟩ := X28.leave (v := some (.int 0)) (fun h => by rw [Bd.returns] at h; cases h)
  refine ⟨_, _, pre0 _ ?_, hrun, hended, _, _, rfl, ?_, ⟨_, rfl⟩, hW, hsame.mono (by decide) (by decide)⟩
  · show Steps p.tables e below (s₁.setTop (mkF m 0 #[vr a1, vr a2, .unset] [])) _
    refine XS.aloadN X0.here hx rfl (hb hby d26_0) rfl rfl ?_
    refine XS.aloadN X0.here hx rfl (hb hby d26_1) rfl rfl ?_
    refine Jvm.RoadKit.acmp (g := (mkF m 2 #[vr a1, vr a2, .unset] [(.ref a2), (.ref a1)])) X0 hx rfl rfl rfl (pc0 := 2) (pc' := 7) (same := false) rfl (hb hby d26_2) rfl (decide_eq_false fun q => ne_a1_a2 (Value.ref.inj q)) (by decide) (by decide) ?_
    refine XS.aloadN X0.here hx rfl (hb hby d26_7) rfl rfl ?_
    refine st4 _ ?_
    refine XS.ifNo X4.here hx rfl (hb hby d26_11) rfl ((if0 _ _).trans (feq ((by decide) : ¬ ((1 : Int32) = (0 : Int32)))).1) ?_
    refine XS.aloadN X4.here hx rfl (hb hby d26_14) rfl rfl ?_
    refine st5 _ ?_
    refine XS.astoreN X5.here hx rfl (hb hby d26_18) rfl rfl (l' := #[vr a1, vr a2, vr a2]) rfl ?_
    refine st8 _ ?_
    show Steps p.tables e below (T8.setTop (mkF m 22 #[vr a1, vr a2, vr a2] [(.int p6)])) _
    refine XS.ifNo X8.here hx rfl (hb hby d26_22) rfl ((if0 _ _).trans (feq (hc9 : ¬ (p6 = (0 : Int32)))).1) ?_
    refine XS.aloadN X8.here hx rfl (hb hby d26_25) rfl rfl ?_
    refine st11 _ ?_
    refine XS.aloadN X11.here hx rfl (hb hby d26_29) rfl rfl ?_
    refine st13 _ ?_
    refine XS.icmpNo X13.here hx rfl (hb hby d26_33) rfl (teq ((by decide) : (0 : Int32) = (0 : Int32))).2 ?_
    refine XS.aloadN X13.here hx rfl (hb hby d26_36) rfl rfl ?_
    refine st16 _ ?_
    refine XS.aloadN X16.here hx rfl (hb hby d26_40) rfl rfl ?_
    refine st19 _ ?_
    show Steps p.tables e below (T19.setTop (mkF m 44 #[vr a1, vr a2, vr a2] [(.ref a17), (.ref a14)])) _
    refine st28 _ ?_
    refine XS.ifYes X28.here hx rfl (pc0 := 47) (pc' := 54) rfl (hb hby d26_47) rfl ((if0 _ _).trans (teq ((by decide) : (0 : Int32) = (0 : Int32))).1) (by decide) (by decide) ?_
    refine XS.iconst X28.here hx rfl (hb hby d26_54) ?_
    exact retN X28 hx (t := .boolean) Bd.returns (by simp) (hb hby d26_55) hr
  · show Qrm26_4 Z a1 a2 p6 a14 a17 k20 p21 p22 p23 p24 k26 h0 n0 _ T28.heap _
    rw [e28]
    exact ⟨rfl, N28, rfl⟩
def Qrm30_2 (Z : State) (a1 : Addr) (a2 : Addr) (k5 : ClassId) (p6 : Int32) (p7 : Int32) (p8 : Int32) (p9 : Int32) (p13 : Int32) (h0 : Heap) (n0 : Nat) (v : Option Value) (h : Heap) (L : List Loc) : Prop := v = some (.int 4) ∧ Fr n0 L ∧ h = h0
set_option maxRecDepth 65536 in
set_option maxHeartbeats 40000000 in
theorem rm30_2 (l : Launch) (Z : State) (a0 : Array Value) (hw : ∀ d ∈ tables_1, d.before a0 Z = true) (ws : List Jvm.Cond) (a1 : Addr) (a2 : Addr) (k5 : ClassId) (p6 : Int32) (p7 : Int32) (p8 : Int32) (p9 : Int32) (p13 : Int32) (h0 : Heap) (n0 : Nat) (O0 : Old Z n0 h0) (F_3 : Fld Z h0 a1 "java/lang/String" "value" "[B" (.ref a2)) (V_10 : Arv Z h0 a2 k5 .byte (4 : Int32) [(.int p6), (.int p7), (.int p8), (.int p9)] (.int 0)) (E_12 : Exa Z h0 a1 "java/lang/String") (S_14 : Sta Z Z.heap "java/lang/String" "COMPACT_STRINGS" "Z" (.int p13)) (hc15 : ¬ (p13 = (0 : Int32))) (F_16 : Fld Z h0 a1 "java/lang/String" "coder" "B" (.int 0)) :
    MF l Z h0 (⟨"java/lang/String", "length", "()I"⟩ : MethodName) jdk_42_method_54_code 1 (some .int) ws (⟨1, 0, 0, 13⟩ : Room) #[(.ref a1)] (Qrm30_2 Z a1 a2 k5 p6 p7 p8 p9 p13 h0 n0) := by
  refine MetFree.of_bodySF (plainFor_of_name pn_4) hisR ?_
  intro p e s m args below meth c s₁ Bd hml0 hP hK
  obtain ⟨rfl, hZ, hh⟩ := hP
  have hx := Bd.exec
  have hby := Bd.bytes
  have hml : c.maxLocals = 1 := hml0
  have hown : s.vm.findClass "java/lang/String" = some m.cls := findClass_of_methodNamed Bd.named
  have X0 : Stand p l e (⟨1, 0, 0, 13⟩ : Room) s m #[(.ref a1)] below meth c s₁ [] 0 0 := Stand.of_body Bd
  have e0 : s₁.heap = h0 := by rw [← hh, Bd.state]; rfl
  have N0 := Fr.nil n0
  have pre0 : ∀ t, Steps p.tables e below (s₁.setTop (mkF m 0 #[vr a1] [])) t → Steps p.tables e below (s₁.setTop (entryFrame m #[(.ref a1)] 1)) t := fun t k => castTop (ef_30_R m a1) k
  obtain ⟨T4, X4, e4, st4⟩ := getF X0 hx hZ hown (host := "") (Or.inl (W hw 28 rfl)) Via.refl e0 F_3 (g := (mkF m 1 #[vr a1] [(.ref a1)])) rfl rfl (hb hby d30_1)
  obtain ⟨cl11, Ar11, q11, S11, M11, Hs11, G11⟩ := id V_10
  obtain ⟨_, T17, L17, X17, hQ17, st17⟩ := cV X4 hx hZ hown (W hw 173 rfl) (W hw 174 rfl) (notFace_of_selects (args := #[]) (mvT hZ (W hw 176 rfl))) (W hw 176 rfl) (W hw 175 rfl) (W hw 177 rfl) (W hw 2 rfl) (by decide) (rm31 l Z a0 hw [] a1 p13 h0 n0 O0 S_14 hc15 F_16) e4 E_12 #[vr a1] [(.int 4)] (by rw [hml]; rfl) (hb hby d30_6) pd_32 rfl (W := 1) (Nat.le_of_eq rfl) (by decide) (by decide) (by decide) (by decide)
  obtain ⟨rfl, Nq17, e17⟩ := hQ17
  have N17 := Fr.app N0 Nq17
  obtain ⟨fs, hr, hrun, hended, hW, hsame⟩ := X17.leave (v := some (.int 4)) (fun h => by rw [Bd.returns] at h; cases h)
  refine ⟨_, _, pre0 _ ?_, hrun, hended, _, _, rfl, ?_, ⟨_, rfl⟩, hW, hsame.mono (by decide) (by decide)⟩
  · show Steps p.tables e below (s₁.setTop (mkF m 0 #[vr a1] [])) _
    refine XS.aloadN X0.here hx rfl (hb hby d30_0) rfl rfl ?_
    refine st4 _ ?_
    refine X4.arraylength hx (by rw [e4]; exact Ar11.1) (State.isArrayOf_alike hZ.alike Ar11.2.1) (g := (mkF m 4 #[vr a1] [(.ref a2)])) rfl rfl (hb hby d30_4) _ ?_
    rw [len_of S11 M11]
    refine XS.aloadN X4.here hx rfl (hb hby d30_5) rfl rfl ?_
    refine st17 _ ?_
    refine XS.ishr X17.here hx rfl (hb hby d30_9) rfl ?_
    show Steps p.tables e below (T17.setTop (mkF m 10 #[vr a1] [(.int ((4 : Int32) >>> ((0 : Int32) &&& 31)))])) _
    rw [show ((4 : Int32) >>> ((0 : Int32) &&& 31)) = (4 : Int32) from by decide]
    exact retI X17 hx Bd.returns (hb hby d30_10) hr
  · show Qrm30_2 Z a1 a2 k5 p6 p7 p8 p9 p13 h0 n0 _ T17.heap _
    rw [e17]
    exact ⟨rfl, N17, rfl⟩
def Qrm32_2 (Z : State) (a1 : Addr) (a2 : Addr) (k3 : ClassId) (p4 : Int32) (p5 : Int32) (p6 : Int32) (p7 : Int32) (k10 : ClassId) (h0 : Heap) (n0 : Nat) (v : Option Value) (h : Heap) (L : List Loc) : Prop := v = some (.int (-1)) ∧ Fr n0 L ∧ h = h0
set_option maxRecDepth 65536 in
set_option maxHeartbeats 40000000 in
theorem rm32_2 (l : Launch) (Z : State) (a0 : Array Value) (hw : ∀ d ∈ tables_1, d.before a0 Z = true) (ws : List Jvm.Cond) (a1 : Addr) (a2 : Addr) (k3 : ClassId) (p4 : Int32) (p5 : Int32) (p6 : Int32) (p7 : Int32) (k10 : ClassId) (h0 : Heap) (n0 : Nat) (O0 : Old Z n0 h0) (V_8 : Arv Z h0 a1 k3 .byte (4 : Int32) [(.int p4), (.int p5), (.int p6), (.int p7)] (.int 0)) (V_11 : Arv Z h0 a2 k10 .byte (1 : Int32) [(.int 45)] (.int (0 : Int32))) (hc13 : p4 = (45 : Int32)) :
    MF l Z h0 (⟨"jdk/internal/util/ArraysSupport", "mismatch", "([BI[BII)I"⟩ : MethodName) jdk_48_method_14_code 8 (some .int) ws (⟨0, 0, 0, 0⟩ : Room) #[(.ref a1), (.int 0), (.ref a2), (.int 0), (.int 1)] (Qrm32_2 Z a1 a2 k3 p4 p5 p6 p7 k10 h0 n0) := by
  refine MetFree.of_bodySF (plainFor_of_name pn_33) hisR ?_
  intro p e s m args below meth c s₁ Bd hml0 hP hK
  obtain ⟨rfl, hZ, hh⟩ := hP
  have hx := Bd.exec
  have hby := Bd.bytes
  have X0 : Stand p l e (⟨0, 0, 0, 0⟩ : Room) s m #[(.ref a1), (.int 0), (.ref a2), (.int 0), (.int 1)] below meth c s₁ [] 0 0 := Stand.of_body Bd
  have e0 : s₁.heap = h0 := by rw [← hh, Bd.state]; rfl
  have N0 := Fr.nil n0
  have pre0 : ∀ t, Steps p.tables e below (s₁.setTop (mkF m 0 #[vr a1, vi 0, vr a2, vi 0, vi 1, .unset, .unset, .unset] [])) t → Steps p.tables e below (s₁.setTop (entryFrame m #[(.ref a1), (.int 0), (.ref a2), (.int 0), (.int 1)] 8)) t := fun t k => castTop (ef_32_RIRII m a1 (0 : Int32) a2 (0 : Int32) (1 : Int32)) k
  obtain ⟨cl9, Ar9, q9, S9, M9, Hs9, G9⟩ := id V_8
  have hin9 : ¬ ((0 : Int32) < 0 ∨ cl9.slots.size ≤ ((0 : Int32)).toNatClampNeg) := inb_of S9 ⟨by decide, by decide⟩
  have hat9 : cl9.slots[((0 : Int32)).toNatClampNeg]? = some (.int p4) := Has.at Hs9 hin9 rfl
  obtain ⟨cl12, Ar12, q12, S12, M12, Hs12, G12⟩ := id V_11
  have hin12 : ¬ ((0 : Int32) < 0 ∨ cl12.slots.size ≤ ((0 : Int32)).toNatClampNeg) := inb_of S12 ⟨by decide, by decide⟩
  have hat12 : cl12.slots[((0 : Int32)).toNatClampNeg]? = some (.int 45) := Has.at Hs12 hin12 rfl
  obtain ⟨fs, hr, hrun, hended, hW, hsame⟩ := X0.leave (v := some (.int (-1))) (fun h => by rw [Bd.returns] at h; cases h)
  refine ⟨_, _, pre0 _ ?_, hrun, hended, _, _, rfl, ?_, ⟨_, rfl⟩, hW, hsame.mono (by decide) (by decide)⟩
  · show Steps p.tables e below (s₁.setTop (mkF m 0 #[vr a1, vi 0, vr a2, vi 0, vi 1, .unset, .unset, .unset] [])) _
    refine XS.iconst X0.here hx rfl (hb hby d32_0) ?_
    refine XS.istore X0.here hx rfl (hb hby d32_1) rfl (l' := #[vr a1, vi 0, vr a2, vi 0, vi 1, vi 0, .unset, .unset]) rfl ?_
    refine XS.iload X0.here hx rfl (hb hby d32_3) rfl ?_
    refine XS.bipush X0.here hx rfl (hb hby d32_5) ?_
    refine XS.icmpYes X0.here hx rfl (pc0 := 7) (pc' := 70) rfl (hb hby d32_7) rfl (flt ((by decide) : ¬ ((7 : Int32) < (1 : Int32)))).2.2.2 (by decide) (by decide) ?_
    refine XS.iload X0.here hx rfl (hb hby d32_70) rfl ?_
    refine XS.iload X0.here hx rfl (hb hby d32_72) rfl ?_
    refine XS.icmpNo X0.here hx rfl (hb hby d32_74) rfl (tlt ((by decide) : (0 : Int32) < (1 : Int32))).2.1 ?_
    refine XS.aloadN X0.here hx rfl (hb hby d32_77) rfl rfl ?_
    refine XS.iloadN X0.here hx rfl (hb hby d32_78) rfl ?_
    show Steps p.tables e below (s₁.setTop (mkF m 79 #[vr a1, vi 0, vr a2, vi 0, vi 1, vi 0, .unset, .unset] [(.int 0), (.ref a1)])) _
    refine XS.iload X0.here hx rfl (hb hby d32_79) rfl ?_
    refine XS.iadd X0.here hx rfl (hb hby d32_81) rfl ?_
    show Steps p.tables e below (s₁.setTop (mkF m 82 #[vr a1, vi 0, vr a2, vi 0, vi 1, vi 0, .unset, .unset] [(.int ((0 : Int32) + (0 : Int32))), (.ref a1)])) _
    rw [show ((0 : Int32) + (0 : Int32)) = (0 : Int32) from by decide]
    refine X0.baloadBytes hx (j := (0 : Int32)) (v := (.int p4)) (by rw [e0]; exact Ar9.1) (State.isArrayOf_alike hZ.alike Ar9.2.1) Ar9.2.2 hin9 hat9 (g := (mkF m 82 #[vr a1, vi 0, vr a2, vi 0, vi 1, vi 0, .unset, .unset] [(.int 0), (.ref a1)])) rfl rfl (hb hby d32_82) _ ?_
    refine XS.aloadN X0.here hx rfl (hb hby d32_83) rfl rfl ?_
    refine XS.iloadN X0.here hx rfl (hb hby d32_84) rfl ?_
    refine XS.iload X0.here hx rfl (hb hby d32_85) rfl ?_
    refine XS.iadd X0.here hx rfl (hb hby d32_87) rfl ?_
    show Steps p.tables e below (s₁.setTop (mkF m 88 #[vr a1, vi 0, vr a2, vi 0, vi 1, vi 0, .unset, .unset] [(.int ((0 : Int32) + (0 : Int32))), (.ref a2), (.int p4)])) _
    rw [show ((0 : Int32) + (0 : Int32)) = (0 : Int32) from by decide]
    refine X0.baloadBytes hx (j := (0 : Int32)) (v := (.int 45)) (by rw [e0]; exact Ar12.1) (State.isArrayOf_alike hZ.alike Ar12.2.1) Ar12.2.2 hin12 hat12 (g := (mkF m 88 #[vr a1, vi 0, vr a2, vi 0, vi 1, vi 0, .unset, .unset] [(.int 0), (.ref a2), (.int p4)])) rfl rfl (hb hby d32_88) _ ?_
    refine XS.icmpYes X0.here hx rfl (pc0 := 89) (pc' := 95) rfl (hb hby d32_89) rfl (teq (hc13 : p4 = (45 : Int32))).1 (by decide) (by decide) ?_
    refine XS.iinc X0.here hx rfl (hb hby d32_95) rfl (l' := #[vr a1, vi 0, vr a2, vi 0, vi 1, vi 1, .unset, .unset]) rfl ?_
    refine XS.goto X0.here hx rfl (pc0 := 98) (pc' := 70) rfl (hb hby d32_98) (by decide) (by decide) ?_
    refine XS.iload X0.here hx rfl (hb hby d32_70) rfl ?_
    refine XS.iload X0.here hx rfl (hb hby d32_72) rfl ?_
    refine XS.icmpYes X0.here hx rfl (pc0 := 74) (pc' := 101) rfl (hb hby d32_74) rfl (flt ((by decide) : ¬ ((1 : Int32) < (1 : Int32)))).2.1 (by decide) (by decide) ?_
    refine XS.iconst X0.here hx rfl (hb hby d32_101) ?_
    exact retI X0 hx Bd.returns (hb hby d32_102) hr
  · show Qrm32_2 Z a1 a2 k3 p4 p5 p6 p7 k10 h0 n0 _ s₁.heap _
    rw [e0]
    exact ⟨rfl, N0, rfl⟩
def Qrm29_2 (Z : State) (a1 : Addr) (a2 : Addr) (a4 : Addr) (k6 : ClassId) (p7 : Int32) (p8 : Int32) (p9 : Int32) (p10 : Int32) (p12 : Int32) (a18 : Addr) (k20 : ClassId) (h0 : Heap) (n0 : Nat) (v : Option Value) (h : Heap) (L : List Loc) : Prop := v = some (.int 1) ∧ Fr n0 L ∧ h = h0
set_option maxRecDepth 65536 in
set_option maxHeartbeats 40000000 in
theorem rm29_2 (l : Launch) (Z : State) (a0 : Array Value) (hw : ∀ d ∈ tables_1, d.before a0 Z = true) (ws : List Jvm.Cond) (a1 : Addr) (a2 : Addr) (a4 : Addr) (k6 : ClassId) (p7 : Int32) (p8 : Int32) (p9 : Int32) (p10 : Int32) (p12 : Int32) (a18 : Addr) (k20 : ClassId) (h0 : Heap) (n0 : Nat) (O0 : Old Z n0 h0) (E_3 : Exa Z h0 a1 "java/lang/String") (F_5 : Fld Z h0 a1 "java/lang/String" "value" "[B" (.ref a4)) (V_11 : Arv Z h0 a4 k6 .byte (4 : Int32) [(.int p7), (.int p8), (.int p9), (.int p10)] (.int 0)) (S_13 : Sta Z Z.heap "java/lang/String" "COMPACT_STRINGS" "Z" (.int p12)) (hc14 : ¬ (p12 = (0 : Int32))) (F_15 : Fld Z h0 a1 "java/lang/String" "coder" "B" (.int 0)) (E_17 : Exa Z h0 a2 "java/lang/String") (F_19 : Fld Z h0 a2 "java/lang/String" "value" "[B" (.ref a18)) (V_21 : Arv Z h0 a18 k20 .byte (1 : Int32) [(.int 45)] (.int (0 : Int32))) (F_22 : Fld Z h0 a2 "java/lang/String" "coder" "B" (.int 0)) (hc29 : p7 = (45 : Int32)) :
    MF l Z h0 (⟨"java/lang/String", "startsWith", "(Ljava/lang/String;I)Z"⟩ : MethodName) jdk_42_method_75_code 8 (some .boolean) ws (⟨2, 0, 0, 27⟩ : Room) #[(.ref a1), (.ref a2), (.int 0)] (Qrm29_2 Z a1 a2 a4 k6 p7 p8 p9 p10 p12 a18 k20 h0 n0) := by
  refine MetFree.of_bodySF (plainFor_of_name pn_4) hisR ?_
  intro p e s m args below meth c s₁ Bd hml0 hP hK
  obtain ⟨rfl, hZ, hh⟩ := hP
  have hx := Bd.exec
  have hby := Bd.bytes
  have hml : c.maxLocals = 8 := hml0
  have hown : s.vm.findClass "java/lang/String" = some m.cls := findClass_of_methodNamed Bd.named
  have X0 : Stand p l e (⟨2, 0, 0, 27⟩ : Room) s m #[(.ref a1), (.ref a2), (.int 0)] below meth c s₁ [] 0 0 := Stand.of_body Bd
  have e0 : s₁.heap = h0 := by rw [← hh, Bd.state]; rfl
  have N0 := Fr.nil n0
  have pre0 : ∀ t, Steps p.tables e below (s₁.setTop (mkF m 0 #[vr a1, vr a2, vi 0, .unset, .unset, .unset, .unset, .unset] [])) t → Steps p.tables e below (s₁.setTop (entryFrame m #[(.ref a1), (.ref a2), (.int 0)] 8)) t := fun t k => castTop (ef_29_RRI m a1 a2 (0 : Int32)) k
  obtain ⟨_, T16, L16, X16, hQ16, st16⟩ := cV X0 hx hZ hown (W hw 168 rfl) (W hw 169 rfl) (notFace_of_selects (args := #[]) (mvT hZ (W hw 171 rfl))) (W hw 171 rfl) (W hw 170 rfl) (W hw 172 rfl) (W hw 2 rfl) (by decide) (rm30_2 l Z a0 hw [] a1 a4 k6 p7 p8 p9 p10 p12 h0 n0 O0 F_5 V_11 E_3 S_13 hc14 F_15) e0 E_3 #[vr a1, vr a2, vi 0, .unset, .unset, .unset, .unset, .unset] [(.int 0)] (by rw [hml]; rfl) (hb hby d29_6) pd_23 rfl (W := 1) (Nat.le_of_eq rfl) (by decide) (by decide) (by decide) (by decide)
  obtain ⟨rfl, Nq16, e16⟩ := hQ16
  have N16 := Fr.app N0 Nq16
  obtain ⟨_, T23, L23, X23, hQ23, st23⟩ := cV X16 hx hZ hown (W hw 168 rfl) (W hw 169 rfl) (notFace_of_selects (args := #[]) (mvT hZ (W hw 171 rfl))) (W hw 171 rfl) (W hw 170 rfl) (W hw 172 rfl) (W hw 2 rfl) (by decide) (rm30_1 l Z a0 hw [] a2 a18 k20 p12 h0 n0 O0 F_19 V_21 E_17 S_13 hc14 F_22) e16 E_17 #[vr a1, vr a2, vi 0, .unset, .unset, .unset, .unset, .unset] [(.int 4), (.int 0)] (by rw [hml]; rfl) (hb hby d29_10) pd_23 rfl (W := 2) (Nat.le_of_eq rfl) (by decide) (by decide) (by decide) (by decide)
  obtain ⟨rfl, Nq23, e23⟩ := hQ23
  have N23 := Fr.app N16 Nq23
  obtain ⟨T24, X24, e24, st24⟩ := getF X23 hx hZ hown (host := "") (Or.inl (W hw 28 rfl)) Via.refl e23 F_5 (g := (mkF m 20 #[vr a1, vr a2, vi 0, .unset, .unset, .unset, .unset, .unset] [(.ref a1)])) rfl rfl (hb hby d29_20)
  obtain ⟨T25, X25, e25, st25⟩ := getF X24 hx hZ hown (host := "") (Or.inl (W hw 28 rfl)) Via.refl e24 F_19 (g := (mkF m 25 #[vr a1, vr a2, vi 0, vr a4, .unset, .unset, .unset, .unset] [(.ref a2)])) rfl rfl (hb hby d29_25)
  obtain ⟨cl26, Ar26, q26, S26, M26, Hs26, G26⟩ := id V_21
  obtain ⟨_, T27, L27, X27, hQ27, st27⟩ := cV X25 hx hZ hown (W hw 173 rfl) (W hw 174 rfl) (notFace_of_selects (args := #[]) (mvT hZ (W hw 176 rfl))) (W hw 176 rfl) (W hw 175 rfl) (W hw 177 rfl) (W hw 2 rfl) (by decide) (rm31 l Z a0 hw [] a1 p12 h0 n0 O0 S_13 hc14 F_15) e25 E_3 #[vr a1, vr a2, vi 0, vr a4, vr a18, vi 0, vi 1, .unset] [] (by rw [hml]; rfl) (hb hby d29_39) pd_32 rfl (W := 0) (Nat.le_of_eq rfl) (by decide) (by decide) (by decide) (by decide)
  obtain ⟨rfl, Nq27, e27⟩ := hQ27
  have N27 := Fr.app N23 Nq27
  obtain ⟨_, T28, L28, X28, hQ28, st28⟩ := cV X27 hx hZ hown (W hw 173 rfl) (W hw 174 rfl) (notFace_of_selects (args := #[]) (mvT hZ (W hw 176 rfl))) (W hw 176 rfl) (W hw 175 rfl) (W hw 177 rfl) (W hw 2 rfl) (by decide) (rm31 l Z a0 hw [] a2 p12 h0 n0 O0 S_13 hc14 F_22) e27 E_17 #[vr a1, vr a2, vi 0, vr a4, vr a18, vi 0, vi 1, vi 0] [(.int 0)] (by rw [hml]; rfl) (hb hby d29_47) pd_32 rfl (W := 1) (Nat.le_of_eq rfl) (by decide) (by decide) (by decide) (by decide)
  obtain ⟨rfl, Nq28, e28⟩ := hQ28
  have N28 := Fr.app N27 Nq28
  obtain ⟨_, T30, L30, X30, hQ30, st30⟩ := cS X28 hx hZ hown (W hw 178 rfl) (W hw 179 rfl) (W hw 180 rfl) (W hw 181 rfl) (by decide) (rm32_2 l Z a0 hw [] a4 a18 k6 p7 p8 p9 p10 k20 h0 n0 O0 V_11 V_21 hc29) e28 #[vr a1, vr a2, vi 0, vr a4, vr a18, vi 0, vi 1, vi 0] [] (by rw [hml]; rfl) (hb hby d29_70) pd_34 rfl (W := 0) (Nat.le_of_eq rfl) (by decide) (by decide) (by decide) (by decide)
  obtain ⟨rfl, Nq30, e30⟩ := hQ30
  have N30 := Fr.app N28 Nq30
  obtain ⟨fs, hr, hrun, hended, hW, hsame⟩ := X30.leave (v := some (.int 1)) (fun h => by rw [Bd.returns] at h; cases h)
  refine ⟨_, _, pre0 _ ?_, hrun, hended, _, _, rfl, ?_, ⟨_, rfl⟩, hW, hsame.mono (by decide) (by decide)⟩
  · show Steps p.tables e below (s₁.setTop (mkF m 0 #[vr a1, vr a2, vi 0, .unset, .unset, .unset, .unset, .unset] [])) _
    refine XS.iloadN X0.here hx rfl (hb hby d29_0) rfl ?_
    refine XS.ifNo X0.here hx rfl (hb hby d29_1) rfl ((if0 _ _).trans (flt ((by decide) : ¬ ((0 : Int32) < (0 : Int32)))).1) ?_
    refine XS.iloadN X0.here hx rfl (hb hby d29_4) rfl ?_
    refine XS.aloadN X0.here hx rfl (hb hby d29_5) rfl rfl ?_
    refine st16 _ ?_
    refine XS.aloadN X16.here hx rfl (hb hby d29_9) rfl rfl ?_
    refine st23 _ ?_
    refine XS.isub X23.here hx rfl (hb hby d29_13) rfl ?_
    show Steps p.tables e below (T23.setTop (mkF m 14 #[vr a1, vr a2, vi 0, .unset, .unset, .unset, .unset, .unset] [(.int ((4 : Int32) - (1 : Int32))), (.int 0)])) _
    rw [show ((4 : Int32) - (1 : Int32)) = (3 : Int32) from by decide]
    refine XS.icmpYes X23.here hx rfl (pc0 := 14) (pc' := 19) rfl (hb hby d29_14) rfl (flt ((by decide) : ¬ ((3 : Int32) < (0 : Int32)))).2.2.2 (by decide) (by decide) ?_
    refine XS.aloadN X23.here hx rfl (hb hby d29_19) rfl rfl ?_
    refine st24 _ ?_
    refine XS.astoreN X24.here hx rfl (hb hby d29_23) rfl rfl (l' := #[vr a1, vr a2, vi 0, vr a4, .unset, .unset, .unset, .unset]) rfl ?_
    refine XS.aloadN X24.here hx rfl (hb hby d29_24) rfl rfl ?_
    refine st25 _ ?_
    refine XS.astore X25.here hx rfl (hb hby d29_28) rfl rfl (l' := #[vr a1, vr a2, vi 0, vr a4, vr a18, .unset, .unset, .unset]) rfl ?_
    refine XS.iconst X25.here hx rfl (hb hby d29_30) ?_
    refine XS.istore X25.here hx rfl (hb hby d29_31) rfl (l' := #[vr a1, vr a2, vi 0, vr a4, vr a18, vi 0, .unset, .unset]) rfl ?_
    show Steps p.tables e below (T25.setTop (mkF m 33 #[vr a1, vr a2, vi 0, vr a4, vr a18, vi 0, .unset, .unset] [])) _
    refine XS.aload X25.here hx rfl (hb hby d29_33) rfl rfl ?_
    refine X25.arraylength hx (by rw [e25]; exact Ar26.1) (State.isArrayOf_alike hZ.alike Ar26.2.1) (g := (mkF m 35 #[vr a1, vr a2, vi 0, vr a4, vr a18, vi 0, .unset, .unset] [(.ref a18)])) rfl rfl (hb hby d29_35) _ ?_
    rw [len_of S26 M26]
    refine XS.istore X25.here hx rfl (hb hby d29_36) rfl (l' := #[vr a1, vr a2, vi 0, vr a4, vr a18, vi 0, vi 1, .unset]) rfl ?_
    refine XS.aloadN X25.here hx rfl (hb hby d29_38) rfl rfl ?_
    refine st27 _ ?_
    refine XS.istore X27.here hx rfl (hb hby d29_42) rfl (l' := #[vr a1, vr a2, vi 0, vr a4, vr a18, vi 0, vi 1, vi 0]) rfl ?_
    refine XS.iload X27.here hx rfl (hb hby d29_44) rfl ?_
    refine XS.aloadN X27.here hx rfl (hb hby d29_46) rfl rfl ?_
    refine st28 _ ?_
    show Steps p.tables e below (T28.setTop (mkF m 50 #[vr a1, vr a2, vi 0, vr a4, vr a18, vi 0, vi 1, vi 0] [(.int 0), (.int 0)])) _
    refine XS.icmpNo X28.here hx rfl (hb hby d29_50) rfl (teq ((by decide) : (0 : Int32) = (0 : Int32))).2 ?_
    refine XS.iload X28.here hx rfl (hb hby d29_53) rfl ?_
    refine XS.iconst X28.here hx rfl (hb hby d29_55) ?_
    refine XS.icmpYes X28.here hx rfl (pc0 := 56) (pc' := 63) rfl (hb hby d29_56) rfl (feq ((by decide) : ¬ ((0 : Int32) = (1 : Int32)))).2 (by decide) (by decide) ?_
    refine XS.aloadN X28.here hx rfl (hb hby d29_63) rfl rfl ?_
    refine XS.iloadN X28.here hx rfl (hb hby d29_64) rfl ?_
    refine XS.aload X28.here hx rfl (hb hby d29_65) rfl rfl ?_
    refine XS.iconst X28.here hx rfl (hb hby d29_67) ?_
    refine XS.iload X28.here hx rfl (hb hby d29_68) rfl ?_
    refine st30 _ ?_
    show Steps p.tables e below (T30.setTop (mkF m 73 #[vr a1, vr a2, vi 0, vr a4, vr a18, vi 0, vi 1, vi 0] [(.int (-1))])) _
    refine XS.ifNo X30.here hx rfl (hb hby d29_73) rfl ((if0 _ _).trans (tlt ((by decide) : (-1 : Int32) < (0 : Int32))).2.1) ?_
    refine XS.iconst X30.here hx rfl (hb hby d29_76) ?_
    refine XS.goto X30.here hx rfl (pc0 := 77) (pc' := 81) rfl (hb hby d29_77) (by decide) (by decide) ?_
    exact retN X30 hx (t := .boolean) Bd.returns (by simp) (hb hby d29_81) hr
  · show Qrm29_2 Z a1 a2 a4 k6 p7 p8 p9 p10 p12 a18 k20 h0 n0 _ T30.heap _
    rw [e30]
    exact ⟨rfl, N30, rfl⟩
def Qrm28_2 (Z : State) (a1 : Addr) (a2 : Addr) (a4 : Addr) (k6 : ClassId) (p7 : Int32) (p8 : Int32) (p9 : Int32) (p10 : Int32) (p12 : Int32) (a17 : Addr) (k19 : ClassId) (h0 : Heap) (n0 : Nat) (v : Option Value) (h : Heap) (L : List Loc) : Prop := v = some (.int 1) ∧ Fr n0 L ∧ h = h0
set_option maxRecDepth 65536 in
set_option maxHeartbeats 40000000 in
theorem rm28_2 (l : Launch) (Z : State) (a0 : Array Value) (hw : ∀ d ∈ tables_1, d.before a0 Z = true) (ws : List Jvm.Cond) (a1 : Addr) (a2 : Addr) (a4 : Addr) (k6 : ClassId) (p7 : Int32) (p8 : Int32) (p9 : Int32) (p10 : Int32) (p12 : Int32) (a17 : Addr) (k19 : ClassId) (h0 : Heap) (n0 : Nat) (O0 : Old Z n0 h0) (E_3 : Exa Z h0 a1 "java/lang/String") (F_5 : Fld Z h0 a1 "java/lang/String" "value" "[B" (.ref a4)) (V_11 : Arv Z h0 a4 k6 .byte (4 : Int32) [(.int p7), (.int p8), (.int p9), (.int p10)] (.int 0)) (S_13 : Sta Z Z.heap "java/lang/String" "COMPACT_STRINGS" "Z" (.int p12)) (hc14 : ¬ (p12 = (0 : Int32))) (F_15 : Fld Z h0 a1 "java/lang/String" "coder" "B" (.int 0)) (E_16 : Exa Z h0 a2 "java/lang/String") (F_18 : Fld Z h0 a2 "java/lang/String" "value" "[B" (.ref a17)) (V_20 : Arv Z h0 a17 k19 .byte (1 : Int32) [(.int 45)] (.int (0 : Int32))) (F_21 : Fld Z h0 a2 "java/lang/String" "coder" "B" (.int 0)) (hc22 : p7 = (45 : Int32)) :
    MF l Z h0 (⟨"java/lang/String", "startsWith", "(Ljava/lang/String;)Z"⟩ : MethodName) jdk_42_method_76_code 2 (some .boolean) ws (⟨3, 0, 0, 46⟩ : Room) #[(.ref a1), (.ref a2)] (Qrm28_2 Z a1 a2 a4 k6 p7 p8 p9 p10 p12 a17 k19 h0 n0) := by
  refine MetFree.of_bodySF (plainFor_of_name pn_4) hisR ?_
  intro p e s m args below meth c s₁ Bd hml0 hP hK
  obtain ⟨rfl, hZ, hh⟩ := hP
  have hx := Bd.exec
  have hby := Bd.bytes
  have hml : c.maxLocals = 2 := hml0
  have hown : s.vm.findClass "java/lang/String" = some m.cls := findClass_of_methodNamed Bd.named
  have X0 : Stand p l e (⟨3, 0, 0, 46⟩ : Room) s m #[(.ref a1), (.ref a2)] below meth c s₁ [] 0 0 := Stand.of_body Bd
  have e0 : s₁.heap = h0 := by rw [← hh, Bd.state]; rfl
  have N0 := Fr.nil n0
  have pre0 : ∀ t, Steps p.tables e below (s₁.setTop (mkF m 0 #[vr a1, vr a2] [])) t → Steps p.tables e below (s₁.setTop (entryFrame m #[(.ref a1), (.ref a2)] 2)) t := fun t k => castTop (ef_28_RR m a1 a2) k
  obtain ⟨_, T23, L23, X23, hQ23, st23⟩ := cV X0 hx hZ hown (W hw 163 rfl) (W hw 164 rfl) (notFace_of_selects (args := #[]) (mvT hZ (W hw 166 rfl))) (W hw 166 rfl) (W hw 165 rfl) (W hw 167 rfl) (W hw 2 rfl) (by decide) (rm29_2 l Z a0 hw [] a1 a2 a4 k6 p7 p8 p9 p10 p12 a17 k19 h0 n0 O0 E_3 F_5 V_11 S_13 hc14 F_15 E_16 F_18 V_20 F_21 hc22) e0 E_3 #[vr a1, vr a2] [] (by rw [hml]; rfl) (hb hby d28_3) pd_35 rfl (W := 0) (Nat.le_of_eq rfl) (by decide) (by decide) (by decide) (by decide)
  obtain ⟨rfl, Nq23, e23⟩ := hQ23
  have N23 := Fr.app N0 Nq23
  obtain ⟨fs, hr, hrun, hended, hW, hsame⟩ := X23.leave (v := some (.int 1)) (fun h => by rw [Bd.returns] at h; cases h)
  refine ⟨_, _, pre0 _ ?_, hrun, hended, _, _, rfl, ?_, ⟨_, rfl⟩, hW, hsame.mono (by decide) (by decide)⟩
  · show Steps p.tables e below (s₁.setTop (mkF m 0 #[vr a1, vr a2] [])) _
    refine XS.aloadN X0.here hx rfl (hb hby d28_0) rfl rfl ?_
    refine XS.aloadN X0.here hx rfl (hb hby d28_1) rfl rfl ?_
    refine XS.iconst X0.here hx rfl (hb hby d28_2) ?_
    refine st23 _ ?_
    exact retN X23 hx (t := .boolean) Bd.returns (by simp) (hb hby d28_6) hr
  · show Qrm28_2 Z a1 a2 a4 k6 p7 p8 p9 p10 p12 a17 k19 h0 n0 _ T23.heap _
    rw [e23]
    exact ⟨rfl, N23, rfl⟩
def Qrm27_4 (Z : State) (a1 : Addr) (a2 : Addr) (k3 : ClassId) (p4 : Int32) (p5 : Int32) (p6 : Int32) (p7 : Int32) (k10 : ClassId) (h0 : Heap) (n0 : Nat) (v : Option Value) (h : Heap) (L : List Loc) : Prop := v = some (.int 0) ∧ Fr n0 L ∧ h = h0
set_option maxRecDepth 65536 in
set_option maxHeartbeats 40000000 in
theorem rm27_4 (l : Launch) (Z : State) (a0 : Array Value) (hw : ∀ d ∈ tables_1, d.before a0 Z = true) (ws : List Jvm.Cond) (a1 : Addr) (a2 : Addr) (k3 : ClassId) (p4 : Int32) (p5 : Int32) (p6 : Int32) (p7 : Int32) (k10 : ClassId) (h0 : Heap) (n0 : Nat) (O0 : Old Z n0 h0) (V_8 : Arv Z h0 a1 k3 .byte (4 : Int32) [(.int p4), (.int p5), (.int p6), (.int p7)] (.int 0)) (V_11 : Arv Z h0 a2 k10 .byte (1 : Int32) [(.int 45)] (.int (0 : Int32))) :
    MF l Z h0 (⟨"java/lang/StringLatin1", "equals", "([B[B)Z"⟩ : MethodName) jdk_43_method_13_code 3 (some .boolean) ws (⟨0, 0, 0, 0⟩ : Room) #[(.ref a1), (.ref a2)] (Qrm27_4 Z a1 a2 k3 p4 p5 p6 p7 k10 h0 n0) := by
  refine MetFree.of_bodySF (plainFor_of_name pn_7) hisR ?_
  intro p e s m args below meth c s₁ Bd hml0 hP hK
  obtain ⟨rfl, hZ, hh⟩ := hP
  have hx := Bd.exec
  have hby := Bd.bytes
  have X0 : Stand p l e (⟨0, 0, 0, 0⟩ : Room) s m #[(.ref a1), (.ref a2)] below meth c s₁ [] 0 0 := Stand.of_body Bd
  have e0 : s₁.heap = h0 := by rw [← hh, Bd.state]; rfl
  have N0 := Fr.nil n0
  have pre0 : ∀ t, Steps p.tables e below (s₁.setTop (mkF m 0 #[vr a1, vr a2, .unset] [])) t → Steps p.tables e below (s₁.setTop (entryFrame m #[(.ref a1), (.ref a2)] 3)) t := fun t k => castTop (ef_27_RR m a1 a2) k
  obtain ⟨cl9, Ar9, q9, S9, M9, Hs9, G9⟩ := id V_8
  obtain ⟨cl12, Ar12, q12, S12, M12, Hs12, G12⟩ := id V_11
  obtain ⟨fs, hr, hrun, hended, hW, hsame⟩ := X0.leave (v := some (.int 0)) (fun h => by rw [Bd.returns] at h; cases h)
  refine ⟨_, _, pre0 _ ?_, hrun, hended, _, _, rfl, ?_, ⟨_, rfl⟩, hW, hsame.mono (by decide) (by decide)⟩
  · show Steps p.tables e below (s₁.setTop (mkF m 0 #[vr a1, vr a2, .unset] [])) _
    refine XS.aloadN X0.here hx rfl (hb hby d27_0) rfl rfl ?_
    refine X0.arraylength hx (by rw [e0]; exact Ar9.1) (State.isArrayOf_alike hZ.alike Ar9.2.1) (g := (mkF m 1 #[vr a1, vr a2, .unset] [(.ref a1)])) rfl rfl (hb hby d27_1) _ ?_
    rw [len_of S9 M9]
    refine XS.aloadN X0.here hx rfl (hb hby d27_2) rfl rfl ?_
    refine X0.arraylength hx (by rw [e0]; exact Ar12.1) (State.isArrayOf_alike hZ.alike Ar12.2.1) (g := (mkF m 3 #[vr a1, vr a2, .unset] [(.ref a2), (.int 4)])) rfl rfl (hb hby d27_3) _ ?_
    rw [len_of S12 M12]
    refine XS.icmpYes X0.here hx rfl (pc0 := 4) (pc' := 34) rfl (hb hby d27_4) rfl (feq ((by decide) : ¬ ((4 : Int32) = (1 : Int32)))).2 (by decide) (by decide) ?_
    refine XS.iconst X0.here hx rfl (hb hby d27_34) ?_
    exact retN X0 hx (t := .boolean) Bd.returns (by simp) (hb hby d27_35) hr
  · show Qrm27_4 Z a1 a2 k3 p4 p5 p6 p7 k10 h0 n0 _ s₁.heap _
    rw [e0]
    exact ⟨rfl, N0, rfl⟩
def Qrm26_5 (Z : State) (a1 : Addr) (a2 : Addr) (p6 : Int32) (a14 : Addr) (a17 : Addr) (k20 : ClassId) (p21 : Int32) (p22 : Int32) (p23 : Int32) (p24 : Int32) (k26 : ClassId) (h0 : Heap) (n0 : Nat) (v : Option Value) (h : Heap) (L : List Loc) : Prop := v = some (.int 0) ∧ Fr n0 L ∧ h = h0
set_option maxRecDepth 65536 in
set_option maxHeartbeats 40000000 in
theorem rm26_5 (l : Launch) (Z : State) (a0 : Array Value) (hw : ∀ d ∈ tables_1, d.before a0 Z = true) (ws : List Jvm.Cond) (a1 : Addr) (a2 : Addr) (p6 : Int32) (a14 : Addr) (a17 : Addr) (k20 : ClassId) (p21 : Int32) (p22 : Int32) (p23 : Int32) (p24 : Int32) (k26 : ClassId) (h0 : Heap) (n0 : Nat) (O0 : Old Z n0 h0) (ne_a1_a2 : a1 ≠ a2) (E_3 : Exa Z h0 a2 "java/lang/String") (S_7 : Sta Z Z.heap "java/lang/String" "COMPACT_STRINGS" "Z" (.int p6)) (hc9 : ¬ (p6 = (0 : Int32))) (F_10 : Fld Z h0 a1 "java/lang/String" "coder" "B" (.int 0)) (F_12 : Fld Z h0 a2 "java/lang/String" "coder" "B" (.int 0)) (F_15 : Fld Z h0 a1 "java/lang/String" "value" "[B" (.ref a14)) (F_18 : Fld Z h0 a2 "java/lang/String" "value" "[B" (.ref a17)) (V_25 : Arv Z h0 a14 k20 .byte (4 : Int32) [(.int p21), (.int p22), (.int p23), (.int p24)] (.int 0)) (V_27 : Arv Z h0 a17 k26 .byte (1 : Int32) [(.int 45)] (.int (0 : Int32))) :
    MF l Z h0 (⟨"java/lang/String", "equals", "(Ljava/lang/Object;)Z"⟩ : MethodName) jdk_42_method_66_code 3 (some .boolean) ws (⟨1, 0, 0, 14⟩ : Room) #[(.ref a1), (.ref a2)] (Qrm26_5 Z a1 a2 p6 a14 a17 k20 p21 p22 p23 p24 k26 h0 n0) := by
  refine MetFree.of_bodySF (plainFor_of_name pn_4) hisR ?_
  intro p e s m args below meth c s₁ Bd hml0 hP hK
  obtain ⟨rfl, hZ, hh⟩ := hP
  have hx := Bd.exec
  have hby := Bd.bytes
  have hml : c.maxLocals = 3 := hml0
  have hown : s.vm.findClass "java/lang/String" = some m.cls := findClass_of_methodNamed Bd.named
  have X0 : Stand p l e (⟨1, 0, 0, 14⟩ : Room) s m #[(.ref a1), (.ref a2)] below meth c s₁ [] 0 0 := Stand.of_body Bd
  have e0 : s₁.heap = h0 := by rw [← hh, Bd.state]; rfl
  have N0 := Fr.nil n0
  have pre0 : ∀ t, Steps p.tables e below (s₁.setTop (mkF m 0 #[vr a1, vr a2, .unset] [])) t → Steps p.tables e below (s₁.setTop (entryFrame m #[(.ref a1), (.ref a2)] 3)) t := fun t k => castTop (ef_26_RR m a1 a2) k
  obtain ⟨T4, X4, e4, st4⟩ := instY X0 hx hZ hown (W hw 37 rfl) e0 (Ins.self E_3) (g := (mkF m 8 #[vr a1, vr a2, .unset] [(.ref a2)])) rfl rfl (hb hby d26_8)
  obtain ⟨T5, X5, e5, st5⟩ := castY X4 hx hZ hown (W hw 37 rfl) e4 (Ins.self E_3) (g := (mkF m 15 #[vr a1, vr a2, .unset] [(.ref a2)])) rfl rfl (hb hby d26_15)
  obtain ⟨T8, X8, e8, st8⟩ := getS2 X5 hx hZ hown (host := "") (Or.inl (W hw 14 rfl)) Via.refl e5 (S_7.ext O0.2) (g := (mkF m 19 #[vr a1, vr a2, vr a2] [])) rfl (hb hby d26_19)
  obtain ⟨T11, X11, e11, st11⟩ := getF X8 hx hZ hown (host := "") (Or.inl (W hw 26 rfl)) Via.refl e8 F_10 (g := (mkF m 26 #[vr a1, vr a2, vr a2] [(.ref a1)])) rfl rfl (hb hby d26_26)
  obtain ⟨T13, X13, e13, st13⟩ := getF X11 hx hZ hown (host := "") (Or.inl (W hw 26 rfl)) Via.refl e11 F_12 (g := (mkF m 30 #[vr a1, vr a2, vr a2] [(.ref a2), (.int 0)])) rfl rfl (hb hby d26_30)
  obtain ⟨T16, X16, e16, st16⟩ := getF X13 hx hZ hown (host := "") (Or.inl (W hw 28 rfl)) Via.refl e13 F_15 (g := (mkF m 37 #[vr a1, vr a2, vr a2] [(.ref a1)])) rfl rfl (hb hby d26_37)
  obtain ⟨T19, X19, e19, st19⟩ := getF X16 hx hZ hown (host := "") (Or.inl (W hw 28 rfl)) Via.refl e16 F_18 (g := (mkF m 41 #[vr a1, vr a2, vr a2] [(.ref a2), (.ref a14)])) rfl rfl (hb hby d26_41)
  obtain ⟨_, T28, L28, X28, hQ28, st28⟩ := cS X19 hx hZ hown (W hw 154 rfl) (W hw 155 rfl) (W hw 35 rfl) (W hw 156 rfl) (by decide) (rm27_4 l Z a0 hw [] a14 a17 k20 p21 p22 p23 p24 k26 h0 n0 O0 V_25 V_27) e19 #[vr a1, vr a2, vr a2] [] (by rw [hml]; rfl) (hb hby d26_44) pd_28 rfl (W := 0) (Nat.le_of_eq rfl) (by decide) (by decide) (by decide) (by decide)
  obtain ⟨rfl, Nq28, e28⟩ := hQ28
  have N28 := Fr.app N0 Nq28
  obtain ⟨fs, hr, hrun, hended, hW, hsame⟩ := X28.leave (v := some (.int 0)) (fun h => by rw [Bd.returns] at h; cases h)
  refine ⟨_, _, pre0 _ ?_, hrun, hended, _, _, rfl, ?_, ⟨_, rfl⟩, hW, hsame.mono (by decide) (by decide)⟩
  · show Steps p.tables e below (s₁.setTop (mkF m 0 #[vr a1, vr a2, .unset] [])) _
    refine XS.aloadN X0.here hx rfl (hb hby d26_0) rfl rfl ?_
    refine XS.aloadN X0.here hx rfl (hb hby d26_1) rfl rfl ?_
    refine Jvm.RoadKit.acmp (g := (mkF m 2 #[vr a1, vr a2, .unset] [(.ref a2), (.ref a1)])) X0 hx rfl rfl rfl (pc0 := 2) (pc' := 7) (same := false) rfl (hb hby d26_2) rfl (decide_eq_false fun q => ne_a1_a2 (Value.ref.inj q)) (by decide) (by decide) ?_
    refine XS.aloadN X0.here hx rfl (hb hby d26_7) rfl rfl ?_
    refine st4 _ ?_
    refine XS.ifNo X4.here hx rfl (hb hby d26_11) rfl ((if0 _ _).trans (feq ((by decide) : ¬ ((1 : Int32) = (0 : Int32)))).1) ?_
    refine XS.aloadN X4.here hx rfl (hb hby d26_14) rfl rfl ?_
    refine st5 _ ?_
    refine XS.astoreN X5.here hx rfl (hb hby d26_18) rfl rfl (l' := #[vr a1, vr a2, vr a2]) rfl ?_
    refine st8 _ ?_
    show Steps p.tables e below (T8.setTop (mkF m 22 #[vr a1, vr a2, vr a2] [(.int p6)])) _
    refine XS.ifNo X8.here hx rfl (hb hby d26_22) rfl ((if0 _ _).trans (feq (hc9 : ¬ (p6 = (0 : Int32)))).1) ?_
    refine XS.aloadN X8.here hx rfl (hb hby d26_25) rfl rfl ?_
    refine st11 _ ?_
    refine XS.aloadN X11.here hx rfl (hb hby d26_29) rfl rfl ?_
    refine st13 _ ?_
    refine XS.icmpNo X13.here hx rfl (hb hby d26_33) rfl (teq ((by decide) : (0 : Int32) = (0 : Int32))).2 ?_
    refine XS.aloadN X13.here hx rfl (hb hby d26_36) rfl rfl ?_
    refine st16 _ ?_
    refine XS.aloadN X16.here hx rfl (hb hby d26_40) rfl rfl ?_
    refine st19 _ ?_
    show Steps p.tables e below (T19.setTop (mkF m 44 #[vr a1, vr a2, vr a2] [(.ref a17), (.ref a14)])) _
    refine st28 _ ?_
    refine XS.ifYes X28.here hx rfl (pc0 := 47) (pc' := 54) rfl (hb hby d26_47) rfl ((if0 _ _).trans (teq ((by decide) : (0 : Int32) = (0 : Int32))).1) (by decide) (by decide) ?_
    refine XS.iconst X28.here hx rfl (hb hby d26_54) ?_
    exact retN X28 hx (t := .boolean) Bd.returns (by simp) (hb hby d26_55) hr
  · show Qrm26_5 Z a1 a2 p6 a14 a17 k20 p21 p22 p23 p24 k26 h0 n0 _ T28.heap _
    rw [e28]
    exact ⟨rfl, N28, rfl⟩
def Qrm32_3 (Z : State) (a1 : Addr) (a2 : Addr) (k3 : ClassId) (p4 : Int32) (p5 : Int32) (p6 : Int32) (p7 : Int32) (k10 : ClassId) (h0 : Heap) (n0 : Nat) (v : Option Value) (h : Heap) (L : List Loc) : Prop := v = some (.int (-1)) ∧ Fr n0 L ∧ h = h0
set_option maxRecDepth 65536 in
set_option maxHeartbeats 40000000 in
theorem rm32_3 (l : Launch) (Z : State) (a0 : Array Value) (hw : ∀ d ∈ tables_1, d.before a0 Z = true) (ws : List Jvm.Cond) (a1 : Addr) (a2 : Addr) (k3 : ClassId) (p4 : Int32) (p5 : Int32) (p6 : Int32) (p7 : Int32) (k10 : ClassId) (h0 : Heap) (n0 : Nat) (O0 : Old Z n0 h0) (V_8 : Arv Z h0 a1 k3 .byte (4 : Int32) [(.int p4), (.int p5), (.int p6), (.int p7)] (.int 0)) (V_11 : Arv Z h0 a2 k10 .byte (2 : Int32) [(.int 45), (.int 45)] (.int (0 : Int32))) (hc13 : p4 = (45 : Int32)) (hc16 : p5 = (45 : Int32)) :
    MF l Z h0 (⟨"jdk/internal/util/ArraysSupport", "mismatch", "([BI[BII)I"⟩ : MethodName) jdk_48_method_14_code 8 (some .int) ws (⟨0, 0, 0, 0⟩ : Room) #[(.ref a1), (.int 0), (.ref a2), (.int 0), (.int 2)] (Qrm32_3 Z a1 a2 k3 p4 p5 p6 p7 k10 h0 n0) := by
  refine MetFree.of_bodySF (plainFor_of_name pn_33) hisR ?_
  intro p e s m args below meth c s₁ Bd hml0 hP hK
  obtain ⟨rfl, hZ, hh⟩ := hP
  have hx := Bd.exec
  have hby := Bd.bytes
  have X0 : Stand p l e (⟨0, 0, 0, 0⟩ : Room) s m #[(.ref a1), (.int 0), (.ref a2), (.int 0), (.int 2)] below meth c s₁ [] 0 0 := Stand.of_body Bd
  have e0 : s₁.heap = h0 := by rw [← hh, Bd.state]; rfl
  have N0 := Fr.nil n0
  have pre0 : ∀ t, Steps p.tables e below (s₁.setTop (mkF m 0 #[vr a1, vi 0, vr a2, vi 0, vi 2, .unset, .unset, .unset] [])) t → Steps p.tables e below (s₁.setTop (entryFrame m #[(.ref a1), (.int 0), (.ref a2), (.int 0), (.int 2)] 8)) t := fun t k => castTop (ef_32_RIRII m a1 (0 : Int32) a2 (0 : Int32) (2 : Int32)) k
  obtain ⟨cl9, Ar9, q9, S9, M9, Hs9, G9⟩ := id V_8
  have hin9 : ¬ ((0 : Int32) < 0 ∨ cl9.slots.size ≤ ((0 : Int32)).toNatClampNeg) := inb_of S9 ⟨by decide, by decide⟩
  have hat9 : cl9.slots[((0 : Int32)).toNatClampNeg]? = some (.int p4) := Has.at Hs9 hin9 rfl
  obtain ⟨cl12, Ar12, q12, S12, M12, Hs12, G12⟩ := id V_11
  have hin12 : ¬ ((0 : Int32) < 0 ∨ cl12.slots.size ≤ ((0 : Int32)).toNatClampNeg) := inb_of S12 ⟨by decide, by decide⟩
  have hat12 : cl12.slots[((0 : Int32)).toNatClampNeg]? = some (.int 45) := Has.at Hs12 hin12 rfl
  obtain ⟨cl14, Ar14, q14, S14, M14, Hs14, G14⟩ := id V_8
  have hin14 : ¬ ((1 : Int32) < 0 ∨ cl14.slots.size ≤ ((1 : Int32)).toNatClampNeg) := inb_of S14 ⟨by decide, by decide⟩
  have hat14 : cl14.slots[((1 : Int32)).toNatClampNeg]? = some (.int p5) := Has.at Hs14 hin14 rfl
  obtain ⟨cl15, Ar15, q15, S15, M15, Hs15, G15⟩ := id V_11
  have hin15 : ¬ ((1 : Int32) < 0 ∨ cl15.slots.size ≤ ((1 : Int32)).toNatClampNeg) := inb_of S15 ⟨by decide, by decide⟩
  have hat15 : cl15.slots[((1 : Int32)).toNatClampNeg]? = some (.int 45) := Has.at Hs15 hin15 rfl
  obtain ⟨fs, hr, hrun, hended, hW, hsame⟩ := X0.leave (v := some (.int (-1))) (fun h => by rw [Bd.returns] at h; cases h)
  refine ⟨_, _, pre0 _ ?_, hrun, hended, _, _, rfl, ?_, ⟨_, rfl⟩, hW, hsame.mono (by decide) (by decide)⟩
  · show Steps p.tables e below (s₁.setTop (mkF m 0 #[vr a1, vi 0, vr a2, vi 0, vi 2, .unset, .unset, .unset] [])) _
    refine XS.iconst X0.here hx rfl (hb hby d32_0) ?_
    refine XS.istore X0.here hx rfl (hb hby d32_1) rfl (l' := #[vr a1, vi 0, vr a2, vi 0, vi 2, vi 0, .unset, .unset]) rfl ?_
    refine XS.iload X0.here hx rfl (hb hby d32_3) rfl ?_
    refine XS.bipush X0.here hx rfl (hb hby d32_5) ?_
    refine XS.icmpYes X0.here hx rfl (pc0 := 7) (pc' := 70) rfl (hb hby d32_7) rfl (flt ((by decide) : ¬ ((7 : Int32) < (2 : Int32)))).2.2.2 (by decide) (by decide) ?_
    refine XS.iload X0.here hx rfl (hb hby d32_70) rfl ?_
    refine XS.iload X0.here hx rfl (hb hby d32_72) rfl ?_
    refine XS.icmpNo X0.here hx rfl (hb hby d32_74) rfl (tlt ((by decide) : (0 : Int32) < (2 : Int32))).2.1 ?_
    refine XS.aloadN X0.here hx rfl (hb hby d32_77) rfl rfl ?_
    refine XS.iloadN X0.here hx rfl (hb hby d32_78) rfl ?_
    show Steps p.tables e below (s₁.setTop (mkF m 79 #[vr a1, vi 0, vr a2, vi 0, vi 2, vi 0, .unset, .unset] [(.int 0), (.ref a1)])) _
    refine XS.iload X0.here hx rfl (hb hby d32_79) rfl ?_
    refine XS.iadd X0.here hx rfl (hb hby d32_81) rfl ?_
    show Steps p.tables e below (s₁.setTop (mkF m 82 #[vr a1, vi 0, vr a2, vi 0, vi 2, vi 0, .unset, .unset] [(.int ((0 : Int32) + (0 : Int32))), (.ref a1)])) _
    rw [show ((0 : Int32) + (0 : Int32)) = (0 : Int32) from by decide]
    refine X0.baloadBytes hx (j := (0 : Int32)) (v := (.int p4)) (by rw [e0]; exact Ar9.1) (State.isArrayOf_alike hZ.alike Ar9.2.1) Ar9.2.2 hin9 hat9 (g := (mkF m 82 #[vr a1, vi 0, vr a2, vi 0, vi 2, vi 0, .unset, .unset] [(.int 0), (.ref a1)])) rfl rfl (hb hby d32_82) _ ?_
    refine XS.aloadN X0.here hx rfl (hb hby d32_83) rfl rfl ?_
    refine XS.iloadN X0.here hx rfl (hb hby d32_84) rfl ?_
    refine XS.iload X0.here hx rfl (hb hby d32_85) rfl ?_
    refine XS.iadd X0.here hx rfl (hb hby d32_87) rfl ?_
    show Steps p.tables e below (s₁.setTop (mkF m 88 #[vr a1, vi 0, vr a2, vi 0, vi 2, vi 0, .unset, .unset] [(.int ((0 : Int32) + (0 : Int32))), (.ref a2), (.int p4)])) _
    rw [show ((0 : Int32) + (0 : Int32)) = (0 : Int32) from by decide]
    refine X0.baloadBytes hx (j := (0 : Int32)) (v := (.int 45)) (by rw [e0]; exact Ar12.1) (State.isArrayOf_alike hZ.alike Ar12.2.1) Ar12.2.2 hin12 hat12 (g := (mkF m 88 #[vr a1, vi 0, vr a2, vi 0, vi 2, vi 0, .unset, .unset] [(.int 0), (.ref a2), (.int p4)])) rfl rfl (hb hby d32_88) _ ?_
    refine XS.icmpYes X0.here hx rfl (pc0 := 89) (pc' := 95) rfl (hb hby d32_89) rfl (teq (hc13 : p4 = (45 : Int32))).1 (by decide) (by decide) ?_
    refine XS.iinc X0.here hx rfl (hb hby d32_95) rfl (l' := #[vr a1, vi 0, vr a2, vi 0, vi 2, vi 1, .unset, .unset]) rfl ?_
    refine XS.goto X0.here hx rfl (pc0 := 98) (pc' := 70) rfl (hb hby d32_98) (by decide) (by decide) ?_
    refine XS.iload X0.here hx rfl (hb hby d32_70) rfl ?_
    refine XS.iload X0.here hx rfl (hb hby d32_72) rfl ?_
    refine XS.icmpNo X0.here hx rfl (hb hby d32_74) rfl (tlt ((by decide) : (1 : Int32) < (2 : Int32))).2.1 ?_
    refine XS.aloadN X0.here hx rfl (hb hby d32_77) rfl rfl ?_
    refine XS.iloadN X0.here hx rfl (hb hby d32_78) rfl ?_
    show Steps p.tables e below (s₁.setTop (mkF m 79 #[vr a1, vi 0, vr a2, vi 0, vi 2, vi 1, .unset, .unset] [(.int 0), (.ref a1)])) _
    refine XS.iload X0.here hx rfl (hb hby d32_79) rfl ?_
    refine XS.iadd X0.here hx rfl (hb hby d32_81) rfl ?_
    show Steps p.tables e below (s₁.setTop (mkF m 82 #[vr a1, vi 0, vr a2, vi 0, vi 2, vi 1, .unset, .unset] [(.int ((0 : Int32) + (1 : Int32))), (.ref a1)])) _
    rw [show ((0 : Int32) + (1 : Int32)) = (1 : Int32) from by decide]
    refine X0.baloadBytes hx (j := (1 : Int32)) (v := (.int p5)) (by rw [e0]; exact Ar14.1) (State.isArrayOf_alike hZ.alike Ar14.2.1) Ar14.2.2 hin14 hat14 (g := (mkF m 82 #[vr a1, vi 0, vr a2, vi 0, vi 2, vi 1, .unset, .unset] [(.int 1), (.ref a1)])) rfl rfl (hb hby d32_82) _ ?_
    refine XS.aloadN X0.here hx rfl (hb hby d32_83) rfl rfl ?_
    refine XS.iloadN X0.here hx rfl (hb hby d32_84) rfl ?_
    refine XS.iload X0.here hx rfl (hb hby d32_85) rfl ?_
    refine XS.iadd X0.here hx rfl (hb hby d32_87) rfl ?_
    show Steps p.tables e below (s₁.setTop (mkF m 88 #[vr a1, vi 0, vr a2, vi 0, vi 2, vi 1, .unset, .unset] [(.int ((0 : Int32) + (1 : Int32))), (.ref a2), (.int p5)])) _
    rw [show ((0 : Int32) + (1 : Int32)) = (1 : Int32) from by decide]
    refine X0.baloadBytes hx (j := (1 : Int32)) (v := (.int 45)) (by rw [e0]; exact Ar15.1) (State.isArrayOf_alike hZ.alike Ar15.2.1) Ar15.2.2 hin15 hat15 (g := (mkF m 88 #[vr a1, vi 0, vr a2, vi 0, vi 2, vi 1, .unset, .unset] [(.int 1), (.ref a2), (.int p5)])) rfl rfl (hb hby d32_88) _ ?_
    refine XS.icmpYes X0.here hx rfl (pc0 := 89) (pc' := 95) rfl (hb hby d32_89) rfl (teq (hc16 : p5 = (45 : Int32))).1 (by decide) (by decide) ?_
    refine XS.iinc X0.here hx rfl (hb hby d32_95) rfl (l' := #[vr a1, vi 0, vr a2, vi 0, vi 2, vi 2, .unset, .unset]) rfl ?_
    refine XS.goto X0.here hx rfl (pc0 := 98) (pc' := 70) rfl (hb hby d32_98) (by decide) (by decide) ?_
    refine XS.iload X0.here hx rfl (hb hby d32_70) rfl ?_
    refine XS.iload X0.here hx rfl (hb hby d32_72) rfl ?_
    refine XS.icmpYes X0.here hx rfl (pc0 := 74) (pc' := 101) rfl (hb hby d32_74) rfl (flt ((by decide) : ¬ ((2 : Int32) < (2 : Int32)))).2.1 (by decide) (by decide) ?_
    refine XS.iconst X0.here hx rfl (hb hby d32_101) ?_
    exact retI X0 hx Bd.returns (hb hby d32_102) hr
  · show Qrm32_3 Z a1 a2 k3 p4 p5 p6 p7 k10 h0 n0 _ s₁.heap _
    rw [e0]
    exact ⟨rfl, N0, rfl⟩
def Qrm29_3 (Z : State) (a1 : Addr) (a2 : Addr) (a4 : Addr) (k6 : ClassId) (p7 : Int32) (p8 : Int32) (p9 : Int32) (p10 : Int32) (p12 : Int32) (a18 : Addr) (k20 : ClassId) (h0 : Heap) (n0 : Nat) (v : Option Value) (h : Heap) (L : List Loc) : Prop := v = some (.int 1) ∧ Fr n0 L ∧ h = h0
set_option maxRecDepth 65536 in
set_option maxHeartbeats 40000000 in
theorem rm29_3 (l : Launch) (Z : State) (a0 : Array Value) (hw : ∀ d ∈ tables_1, d.before a0 Z = true) (ws : List Jvm.Cond) (a1 : Addr) (a2 : Addr) (a4 : Addr) (k6 : ClassId) (p7 : Int32) (p8 : Int32) (p9 : Int32) (p10 : Int32) (p12 : Int32) (a18 : Addr) (k20 : ClassId) (h0 : Heap) (n0 : Nat) (O0 : Old Z n0 h0) (E_3 : Exa Z h0 a1 "java/lang/String") (F_5 : Fld Z h0 a1 "java/lang/String" "value" "[B" (.ref a4)) (V_11 : Arv Z h0 a4 k6 .byte (4 : Int32) [(.int p7), (.int p8), (.int p9), (.int p10)] (.int 0)) (S_13 : Sta Z Z.heap "java/lang/String" "COMPACT_STRINGS" "Z" (.int p12)) (hc14 : ¬ (p12 = (0 : Int32))) (F_15 : Fld Z h0 a1 "java/lang/String" "coder" "B" (.int 0)) (E_17 : Exa Z h0 a2 "java/lang/String") (F_19 : Fld Z h0 a2 "java/lang/String" "value" "[B" (.ref a18)) (V_21 : Arv Z h0 a18 k20 .byte (2 : Int32) [(.int 45), (.int 45)] (.int (0 : Int32))) (F_22 : Fld Z h0 a2 "java/lang/String" "coder" "B" (.int 0)) (hc29 : p7 = (45 : Int32)) (hc30 : p8 = (45 : Int32)) :
    MF l Z h0 (⟨"java/lang/String", "startsWith", "(Ljava/lang/String;I)Z"⟩ : MethodName) jdk_42_method_75_code 8 (some .boolean) ws (⟨2, 0, 0, 27⟩ : Room) #[(.ref a1), (.ref a2), (.int 0)] (Qrm29_3 Z a1 a2 a4 k6 p7 p8 p9 p10 p12 a18 k20 h0 n0) := by
  refine MetFree.of_bodySF (plainFor_of_name pn_4) hisR ?_
  intro p e s m args below meth c s₁ Bd hml0 hP hK
  obtain ⟨rfl, hZ, hh⟩ := hP
  have hx := Bd.exec
  have hby := Bd.bytes
  have hml : c.maxLocals = 8 := hml0
  have hown : s.vm.findClass "java/lang/String" = some m.cls := findClass_of_methodNamed Bd.named
  have X0 : Stand p l e (⟨2, 0, 0, 27⟩ : Room) s m #[(.ref a1), (.ref a2), (.int 0)] below meth c s₁ [] 0 0 := Stand.of_body Bd
  have e0 : s₁.heap = h0 := by rw [← hh, Bd.state]; rfl
  have N0 := Fr.nil n0
  have pre0 : ∀ t, Steps p.tables e below (s₁.setTop (mkF m 0 #[vr a1, vr a2, vi 0, .unset, .unset, .unset, .unset, .unset] [])) t → Steps p.tables e below (s₁.setTop (entryFrame m #[(.ref a1), (.ref a2), (.int 0)] 8)) t := fun t k => castTop (ef_29_RRI m a1 a2 (0 : Int32)) k
  obtain ⟨_, T16, L16, X16, hQ16, st16⟩ := cV X0 hx hZ hown (W hw 168 rfl) (W hw 169 rfl) (notFace_of_selects (args := #[]) (mvT hZ (W hw 171 rfl))) (W hw 171 rfl) (W hw 170 rfl) (W hw 172 rfl) (W hw 2 rfl) (by decide) (rm30_2 l Z a0 hw [] a1 a4 k6 p7 p8 p9 p10 p12 h0 n0 O0 F_5 V_11 E_3 S_13 hc14 F_15) e0 E_3 #[vr a1, vr a2, vi 0, .unset, .unset, .unset, .unset, .unset] [(.int 0)] (by rw [hml]; rfl) (hb hby d29_6) pd_23 rfl (W := 1) (Nat.le_of_eq rfl) (by decide) (by decide) (by decide) (by decide)
  obtain ⟨rfl, Nq16, e16⟩ := hQ16
  have N16 := Fr.app N0 Nq16
  obtain ⟨_, T23, L23, X23, hQ23, st23⟩ := cV X16 hx hZ hown (W hw 168 rfl) (W hw 169 rfl) (notFace_of_selects (args := #[]) (mvT hZ (W hw 171 rfl))) (W hw 171 rfl) (W hw 170 rfl) (W hw 172 rfl) (W hw 2 rfl) (by decide) (rm30 l Z a0 hw [] a2 a18 k20 (45 : Int32) (45 : Int32) p12 h0 n0 O0 F_19 V_21 E_17 S_13 hc14 F_22) e16 E_17 #[vr a1, vr a2, vi 0, .unset, .unset, .unset, .unset, .unset] [(.int 4), (.int 0)] (by rw [hml]; rfl) (hb hby d29_10) pd_23 rfl (W := 2) (Nat.le_of_eq rfl) (by decide) (by decide) (by decide) (by decide)
  obtain ⟨rfl, Nq23, e23⟩ := hQ23
  have N23 := Fr.app N16 Nq23
  obtain ⟨T24, X24, e24, st24⟩ := getF X23 hx hZ hown (host := "") (Or.inl (W hw 28 rfl)) Via.refl e23 F_5 (g := (mkF m 20 #[vr a1, vr a2, vi 0, .unset, .unset, .unset, .unset, .unset] [(.ref a1)])) rfl rfl (hb hby d29_20)
  obtain ⟨T25, X25, e25, st25⟩ := getF X24 hx hZ hown (host := "") (Or.inl (W hw 28 rfl)) Via.refl e24 F_19 (g := (mkF m 25 #[vr a1, vr a2, vi 0, vr a4, .unset, .unset, .unset, .unset] [(.ref a2)])) rfl rfl (hb hby d29_25)
  obtain ⟨cl26, Ar26, q26, S26, M26, Hs26, G26⟩ := id V_21
  obtain ⟨_, T27, L27, X27, hQ27, st27⟩ := cV X25 hx hZ hown (W hw 173 rfl) (W hw 174 rfl) (notFace_of_selects (args := #[]) (mvT hZ (W hw 176 rfl))) (W hw 176 rfl) (W hw 175 rfl) (W hw 177 rfl) (W hw 2 rfl) (by decide) (rm31 l Z a0 hw [] a1 p12 h0 n0 O0 S_13 hc14 F_15) e25 E_3 #[vr a1, vr a2, vi 0, vr a4, vr a18, vi 0, vi 2, .unset] [] (by rw [hml]; rfl) (hb hby d29_39) pd_32 rfl (W := 0) (Nat.le_of_eq rfl) (by decide) (by decide) (by decide) (by decide)
  obtain ⟨rfl, Nq27, e27⟩ := hQ27
  have N27 := Fr.app N23 Nq27
  obtain ⟨_, T28, L28, X28, hQ28, st28⟩ := cV X27 hx hZ hown (W hw 173 rfl) (W hw 174 rfl) (notFace_of_selects (args := #[]) (mvT hZ (W hw 176 rfl))) (W hw 176 rfl) (W hw 175 rfl) (W hw 177 rfl) (W hw 2 rfl) (by decide) (rm31 l Z a0 hw [] a2 p12 h0 n0 O0 S_13 hc14 F_22) e27 E_17 #[vr a1, vr a2, vi 0, vr a4, vr a18, vi 0, vi 2, vi 0] [(.int 0)] (by rw [hml]; rfl) (hb hby d29_47) pd_32 rfl (W := 1) (Nat.le_of_eq rfl) (by decide) (by decide) (by decide) (by decide)
  obtain ⟨rfl, Nq28, e28⟩ := hQ28
  have N28 := Fr.app N27 Nq28
  obtain ⟨_, T31, L31, X31, hQ31, st31⟩ := cS X28 hx hZ hown (W hw 178 rfl) (W hw 179 rfl) (W hw 180 rfl) (W hw 181 rfl) (by decide) (rm32_3 l Z a0 hw [] a4 a18 k6 p7 p8 p9 p10 k20 h0 n0 O0 V_11 V_21 hc29 hc30) e28 #[vr a1, vr a2, vi 0, vr a4, vr a18, vi 0, vi 2, vi 0] [] (by rw [hml]; rfl) (hb hby d29_70) pd_34 rfl (W := 0) (Nat.le_of_eq rfl) (by decide) (by decide) (by decide) (by decide)
  obtain ⟨rfl, Nq31, e31⟩ := hQ31
  have N31 := Fr.app N28 Nq31
  obtain ⟨fs, hr, hrun, hended, hW, hsame⟩ := X31.leave (v := some (.int 1)) (fun h => by rw [Bd.returns] at h; cases h)
  refine ⟨_, _, pre0 _ ?_, hrun, hended, _, _, rfl, ?_, ⟨_, rfl⟩, hW, hsame.mono (by decide) (by decide)⟩
  · show Steps p.tables e below (s₁.setTop (mkF m 0 #[vr a1, vr a2, vi 0, .unset, .unset, .unset, .unset, .unset] [])) _
    refine XS.iloadN X0.here hx rfl (hb hby d29_0) rfl ?_
    refine XS.ifNo X0.here hx rfl (hb hby d29_1) rfl ((if0 _ _).trans (flt ((by decide) : ¬ ((0 : Int32) < (0 : Int32)))).1) ?_
    refine XS.iloadN X0.here hx rfl (hb hby d29_4) rfl ?_
    refine XS.aloadN X0.here hx rfl (hb hby d29_5) rfl rfl ?_
    refine st16 _ ?_
    refine XS.aloadN X16.here hx rfl (hb hby d29_9) rfl rfl ?_
    refine st23 _ ?_
    refine XS.isub X23.here hx rfl (hb hby d29_13) rfl ?_
    show Steps p.tables e below (T23.setTop (mkF m 14 #[vr a1, vr a2, vi 0, .unset, .unset, .unset, .unset, .unset] [(.int ((4 : Int32) - (2 : Int32))), (.int 0)])) _
    rw [show ((4 : Int32) - (2 : Int32)) = (2 : Int32) from by decide]
    refine XS.icmpYes X23.here hx rfl (pc0 := 14) (pc' := 19) rfl (hb hby d29_14) rfl (flt ((by decide) : ¬ ((2 : Int32) < (0 : Int32)))).2.2.2 (by decide) (by decide) ?_
    refine XS.aloadN X23.here hx rfl (hb hby d29_19) rfl rfl ?_
    refine st24 _ ?_
    refine XS.astoreN X24.here hx rfl (hb hby d29_23) rfl rfl (l' := #[vr a1, vr a2, vi 0, vr a4, .unset, .unset, .unset, .unset]) rfl ?_
    refine XS.aloadN X24.here hx rfl (hb hby d29_24) rfl rfl ?_
    refine st25 _ ?_
    refine XS.astore X25.here hx rfl (hb hby d29_28) rfl rfl (l' := #[vr a1, vr a2, vi 0, vr a4, vr a18, .unset, .unset, .unset]) rfl ?_
    refine XS.iconst X25.here hx rfl (hb hby d29_30) ?_
    refine XS.istore X25.here hx rfl (hb hby d29_31) rfl (l' := #[vr a1, vr a2, vi 0, vr a4, vr a18, vi 0, .unset, .unset]) rfl ?_
    show Steps p.tables e below (T25.setTop (mkF m 33 #[vr a1, vr a2, vi 0, vr a4, vr a18, vi 0, .unset, .unset] [])) _
    refine XS.aload X25.here hx rfl (hb hby d29_33) rfl rfl ?_
    refine X25.arraylength hx (by rw [e25]; exact Ar26.1) (State.isArrayOf_alike hZ.alike Ar26.2.1) (g := (mkF m 35 #[vr a1, vr a2, vi 0, vr a4, vr a18, vi 0, .unset, .unset] [(.ref a18)])) rfl rfl (hb hby d29_35) _ ?_
    rw [len_of S26 M26]
    refine XS.istore X25.here hx rfl (hb hby d29_36) rfl (l' := #[vr a1, vr a2, vi 0, vr a4, vr a18, vi 0, vi 2, .unset]) rfl ?_
    refine XS.aloadN X25.here hx rfl (hb hby d29_38) rfl rfl ?_
    refine st27 _ ?_
    refine XS.istore X27.here hx rfl (hb hby d29_42) rfl (l' := #[vr a1, vr a2, vi 0, vr a4, vr a18, vi 0, vi 2, vi 0]) rfl ?_
    refine XS.iload X27.here hx rfl (hb hby d29_44) rfl ?_
    refine XS.aloadN X27.here hx rfl (hb hby d29_46) rfl rfl ?_
    refine st28 _ ?_
    show Steps p.tables e below (T28.setTop (mkF m 50 #[vr a1, vr a2, vi 0, vr a4, vr a18, vi 0, vi 2, vi 0] [(.int 0), (.int 0)])) _
    refine XS.icmpNo X28.here hx rfl (hb hby d29_50) rfl (teq ((by decide) : (0 : Int32) = (0 : Int32))).2 ?_
    refine XS.iload X28.here hx rfl (hb hby d29_53) rfl ?_
    refine XS.iconst X28.here hx rfl (hb hby d29_55) ?_
    refine XS.icmpYes X28.here hx rfl (pc0 := 56) (pc' := 63) rfl (hb hby d29_56) rfl (feq ((by decide) : ¬ ((0 : Int32) = (1 : Int32)))).2 (by decide) (by decide) ?_
    refine XS.aloadN X28.here hx rfl (hb hby d29_63) rfl rfl ?_
    refine XS.iloadN X28.here hx rfl (hb hby d29_64) rfl ?_
    refine XS.aload X28.here hx rfl (hb hby d29_65) rfl rfl ?_
    refine XS.iconst X28.here hx rfl (hb hby d29_67) ?_
    refine XS.iload X28.here hx rfl (hb hby d29_68) rfl ?_
    refine st31 _ ?_
    show Steps p.tables e below (T31.setTop (mkF m 73 #[vr a1, vr a2, vi 0, vr a4, vr a18, vi 0, vi 2, vi 0] [(.int (-1))])) _
    refine XS.ifNo X31.here hx rfl (hb hby d29_73) rfl ((if0 _ _).trans (tlt ((by decide) : (-1 : Int32) < (0 : Int32))).2.1) ?_
    refine XS.iconst X31.here hx rfl (hb hby d29_76) ?_
    refine XS.goto X31.here hx rfl (pc0 := 77) (pc' := 81) rfl (hb hby d29_77) (by decide) (by decide) ?_
    exact retN X31 hx (t := .boolean) Bd.returns (by simp) (hb hby d29_81) hr
  · show Qrm29_3 Z a1 a2 a4 k6 p7 p8 p9 p10 p12 a18 k20 h0 n0 _ T31.heap _
    rw [e31]
    exact ⟨rfl, N31, rfl⟩
def Qrm28_3 (Z : State) (a1 : Addr) (a2 : Addr) (a4 : Addr) (k6 : ClassId) (p7 : Int32) (p8 : Int32) (p9 : Int32) (p10 : Int32) (p12 : Int32) (a17 : Addr) (k19 : ClassId) (h0 : Heap) (n0 : Nat) (v : Option Value) (h : Heap) (L : List Loc) : Prop := v = some (.int 1) ∧ Fr n0 L ∧ h = h0
set_option maxRecDepth 65536 in
set_option maxHeartbeats 40000000 in
theorem rm28_3 (l : Launch) (Z : State) (a0 : Array Value) (hw : ∀ d ∈ tables_1, d.before a0 Z = true) (ws : List Jvm.Cond) (a1 : Addr) (a2 : Addr) (a4 : Addr) (k6 : ClassId) (p7 : Int32) (p8 : Int32) (p9 : Int32) (p10 : Int32) (p12 : Int32) (a17 : Addr) (k19 : ClassId) (h0 : Heap) (n0 : Nat) (O0 : Old Z n0 h0) (E_3 : Exa Z h0 a1 "java/lang/String") (F_5 : Fld Z h0 a1 "java/lang/String" "value" "[B" (.ref a4)) (V_11 : Arv Z h0 a4 k6 .byte (4 : Int32) [(.int p7), (.int p8), (.int p9), (.int p10)] (.int 0)) (S_13 : Sta Z Z.heap "java/lang/String" "COMPACT_STRINGS" "Z" (.int p12)) (hc14 : ¬ (p12 = (0 : Int32))) (F_15 : Fld Z h0 a1 "java/lang/String" "coder" "B" (.int 0)) (E_16 : Exa Z h0 a2 "java/lang/String") (F_18 : Fld Z h0 a2 "java/lang/String" "value" "[B" (.ref a17)) (V_20 : Arv Z h0 a17 k19 .byte (2 : Int32) [(.int 45), (.int 45)] (.int (0 : Int32))) (F_21 : Fld Z h0 a2 "java/lang/String" "coder" "B" (.int 0)) (hc22 : p7 = (45 : Int32)) (hc23 : p8 = (45 : Int32)) :
    MF l Z h0 (⟨"java/lang/String", "startsWith", "(Ljava/lang/String;)Z"⟩ : MethodName) jdk_42_method_76_code 2 (some .boolean) ws (⟨3, 0, 0, 46⟩ : Room) #[(.ref a1), (.ref a2)] (Qrm28_3 Z a1 a2 a4 k6 p7 p8 p9 p10 p12 a17 k19 h0 n0) := by
  refine MetFree.of_bodySF (plainFor_of_name pn_4) hisR ?_
  intro p e s m args below meth c s₁ Bd hml0 hP hK
  obtain ⟨rfl, hZ, hh⟩ := hP
  have hx := Bd.exec
  have hby := Bd.bytes
  have hml : c.maxLocals = 2 := hml0
  have hown : s.vm.findClass "java/lang/String" = some m.cls := findClass_of_methodNamed Bd.named
  have X0 : Stand p l e (⟨3, 0, 0, 46⟩ : Room) s m #[(.ref a1), (.ref a2)] below meth c s₁ [] 0 0 := Stand.of_body Bd
  have e0 : s₁.heap = h0 := by rw [← hh, Bd.state]; rfl
  have N0 := Fr.nil n0
  have pre0 : ∀ t, Steps p.tables e below (s₁.setTop (mkF m 0 #[vr a1, vr a2] [])) t → Steps p.tables e below (s₁.setTop (entryFrame m #[(.ref a1), (.ref a2)] 2)) t := fun t k => castTop (ef_28_RR m a1 a2) k
  obtain ⟨_, T24, L24, X24, hQ24, st24⟩ := cV X0 hx hZ hown (W hw 163 rfl) (W hw 164 rfl) (notFace_of_selects (args := #[]) (mvT hZ (W hw 166 rfl))) (W hw 166 rfl) (W hw 165 rfl) (W hw 167 rfl) (W hw 2 rfl) (by decide) (rm29_3 l Z a0 hw [] a1 a2 a4 k6 p7 p8 p9 p10 p12 a17 k19 h0 n0 O0 E_3 F_5 V_11 S_13 hc14 F_15 E_16 F_18 V_20 F_21 hc22 hc23) e0 E_3 #[vr a1, vr a2] [] (by rw [hml]; rfl) (hb hby d28_3) pd_35 rfl (W := 0) (Nat.le_of_eq rfl) (by decide) (by decide) (by decide) (by decide)
  obtain ⟨rfl, Nq24, e24⟩ := hQ24
  have N24 := Fr.app N0 Nq24
  obtain ⟨fs, hr, hrun, hended, hW, hsame⟩ := X24.leave (v := some (.int 1)) (fun h => by rw [Bd.returns] at h; cases h)
  refine ⟨_, _, pre0 _ ?_, hrun, hended, _, _, rfl, ?_, ⟨_, rfl⟩, hW, hsame.mono (by decide) (by decide)⟩
  · show Steps p.tables e below (s₁.setTop (mkF m 0 #[vr a1, vr a2] [])) _
    refine XS.aloadN X0.here hx rfl (hb hby d28_0) rfl rfl ?_
    refine XS.aloadN X0.here hx rfl (hb hby d28_1) rfl rfl ?_
    refine XS.iconst X0.here hx rfl (hb hby d28_2) ?_
    refine st24 _ ?_
    exact retN X24 hx (t := .boolean) Bd.returns (by simp) (hb hby d28_6) hr
  · show Qrm28_3 Z a1 a2 a4 k6 p7 p8 p9 p10 p12 a17 k19 h0 n0 _ T24.heap _
    rw [e24]
    exact ⟨rfl, N24, rfl⟩
theorem d20_95 : decode prog_1_method_2_code 95 = .ok (.aload_n 1, 1) := by decide +kernel
theorem d20_96 : decode prog_1_method_2_code 96 = .ok (.bipush 61, 2) := by decide +kernel
theorem d20_98 : decode prog_1_method_2_code 98 = .ok (.invokevirtual 41, 3) := by decide +kernel
theorem d33_0 : decode jdk_42_method_79_code 0 = .ok (.aload_n 0, 1) := by decide +kernel
theorem d33_1 : decode jdk_42_method_79_code 1 = .ok (.iload_n 1, 1) := by decide +kernel
theorem d33_2 : decode jdk_42_method_79_code 2 = .ok (.iconst 0, 1) := by decide +kernel
theorem d33_3 : decode jdk_42_method_79_code 3 = .ok (.invokevirtual 633, 3) := by decide +kernel
theorem d34_0 : decode jdk_42_method_80_code 0 = .ok (.aload_n 0, 1) := by decide +kernel
theorem d34_1 : decode jdk_42_method_80_code 1 = .ok (.invokevirtual 492, 3) := by decide +kernel
theorem d35_0 : decode jdk_42_method_154_code 0 = .ok (.getstatic 38, 3) := by decide +kernel
theorem d35_3 : decode jdk_42_method_154_code 3 = .ok (.ifCond .eq 14, 3) := by decide +kernel
theorem d35_6 : decode jdk_42_method_154_code 6 = .ok (.aload_n 0, 1) := by decide +kernel
theorem d35_7 : decode jdk_42_method_154_code 7 = .ok (.getfield 15, 3) := by decide +kernel
theorem d35_10 : decode jdk_42_method_154_code 10 = .ok (.ifCond .ne 7, 3) := by decide +kernel
theorem d35_13 : decode jdk_42_method_154_code 13 = .ok (.iconst 1, 1) := by decide +kernel
theorem d35_14 : decode jdk_42_method_154_code 14 = .ok (.goto 4, 3) := by decide +kernel
theorem d35_18 : decode jdk_42_method_154_code 18 = .ok (.ireturn, 1) := by decide +kernel
theorem ef_35_R (m : MethodId) (x0 : Addr) : entryFrame m #[(.ref x0)] 1 = mkF m 0 #[vr x0] [] := by first | (simp [entryFrame, mkF, argsToLocals, Value.category]; done) | rfl
def Qrm35 (Z : State) (a1 : Addr) (p2 : Int32) (h0 : Heap) (n0 : Nat) (v : Option Value) (h : Heap) (L : List Loc) : Prop := v = some (.int 1) ∧ Fr n0 L ∧ h = h0
set_option maxRecDepth 65536 in
set_option maxHeartbeats 40000000 in
theorem rm35 (l : Launch) (Z : State) (a0 : Array Value) (hw : ∀ d ∈ tables_1, d.before a0 Z = true) (ws : List Jvm.Cond) (a1 : Addr) (p2 : Int32) (h0 : Heap) (n0 : Nat) (O0 : Old Z n0 h0) (S_3 : Sta Z Z.heap "java/lang/String" "COMPACT_STRINGS" "Z" (.int p2)) (hc5 : ¬ (p2 = (0 : Int32))) (F_6 : Fld Z h0 a1 "java/lang/String" "coder" "B" (.int 0)) :
    MF l Z h0 (⟨"java/lang/String", "isLatin1", "()Z"⟩ : MethodName) jdk_42_method_154_code 1 (some .boolean) ws (⟨0, 0, 0, 0⟩ : Room) #[(.ref a1)] (Qrm35 Z a1 p2 h0 n0) := by
  refine MetFree.of_bodySF (plainFor_of_name pn_4) hisR ?_
  intro p e s m args below meth c s₁ Bd hml0 hP hK
  obtain ⟨rfl, hZ, hh⟩ := hP
  have hx := Bd.exec
  have hby := Bd.bytes
  have hown : s.vm.findClass "java/lang/String" = some m.cls := findClass_of_methodNamed Bd.named
  have X0 : Stand p l e (⟨0, 0, 0, 0⟩ : Room) s m #[(.ref a1)] below meth c s₁ [] 0 0 := Stand.of_body Bd
  have e0 : s₁.heap = h0 := by rw [← hh, Bd.state]; rfl
  have N0 := Fr.nil n0
  have pre0 : ∀ t, Steps p.tables e below (s₁.setTop (mkF m 0 #[vr a1] [])) t → Steps p.tables e below (s₁.setTop (entryFrame m #[(.ref a1)] 1)) t := fun t k => castTop (ef_35_R m a1) k
  obtain ⟨T4, X4, e4, st4⟩ := getS2 X0 hx hZ hown (host := "") (Or.inl (W hw 14 rfl)) Via.refl e0 (S_3.ext O0.2) (g := (mkF m 0 #[vr a1] [])) rfl (hb hby d35_0)
  obtain ⟨T7, X7, e7, st7⟩ := getF X4 hx hZ hown (host := "") (Or.inl (W hw 26 rfl)) Via.refl e4 F_6 (g := (mkF m 7 #[vr a1] [(.ref a1)])) rfl rfl (hb hby d35_7)
  obtain ⟨fs, hr, hrun, hended, hW, hsame⟩ := X7.leave (v := some (.int 1)) (fun h => by rw [Bd.returns] at h; cases h)
  refine ⟨_, _, pre0 _ ?_, hrun, hended, _, _, rfl, ?_, ⟨_, rfl⟩, hW, hsame.mono (by decide) (by decide)⟩
  · show Steps p.tables e below (s₁.setTop (mkF m 0 #[vr a1] [])) _
    refine st4 _ ?_
    refine XS.ifNo X4.here hx rfl (hb hby d35_3) rfl ((if0 _ _).trans (feq (hc5 : ¬ (p2 = (0 : Int32)))).1) ?_
    refine XS.aloadN X4.here hx rfl (hb hby d35_6) rfl rfl ?_
    refine st7 _ ?_
    refine XS.ifNo X7.here hx rfl (hb hby d35_10) rfl ((if0 _ _).trans (teq ((by decide) : (0 : Int32) = (0 : Int32))).2) ?_
    refine XS.iconst X7.here hx rfl (hb hby d35_13) ?_
    refine XS.goto X7.here hx rfl (pc0 := 14) (pc' := 18) rfl (hb hby d35_14) (by decide) (by decide) ?_
    exact retN X7 hx (t := .boolean) Bd.returns (by simp) (hb hby d35_18) hr
  · show Qrm35 Z a1 p2 h0 n0 _ T7.heap _
    rw [e7]
    exact ⟨rfl, N0, rfl⟩
theorem d34_4 : decode jdk_42_method_80_code 4 = .ok (.ifCond .eq 19, 3) := by decide +kernel
theorem d34_7 : decode jdk_42_method_80_code 7 = .ok (.aload_n 0, 1) := by decide +kernel
theorem d34_8 : decode jdk_42_method_80_code 8 = .ok (.getfield 9, 3) := by decide +kernel
theorem d34_11 : decode jdk_42_method_80_code 11 = .ok (.iload_n 1, 1) := by decide +kernel
theorem d34_12 : decode jdk_42_method_80_code 12 = .ok (.iload_n 2, 1) := by decide +kernel
theorem d34_13 : decode jdk_42_method_80_code 13 = .ok (.aload_n 0, 1) := by decide +kernel
theorem d34_14 : decode jdk_42_method_80_code 14 = .ok (.invokevirtual 505, 3) := by decide +kernel
theorem d34_17 : decode jdk_42_method_80_code 17 = .ok (.invokestatic 637, 3) := by decide +kernel
theorem d36_0 : decode jdk_43_method_22_code 0 = .ok (.iload_n 1, 1) := by decide +kernel
theorem d36_1 : decode jdk_43_method_22_code 1 = .ok (.invokestatic 88, 3) := by decide +kernel
theorem d37_0 : decode jdk_43_method_4_code 0 = .ok (.iload_n 0, 1) := by decide +kernel
theorem d37_1 : decode jdk_43_method_4_code 1 = .ok (.ifCond .lt 14, 3) := by decide +kernel
theorem d37_4 : decode jdk_43_method_4_code 4 = .ok (.iload_n 0, 1) := by decide +kernel
theorem d37_5 : decode jdk_43_method_4_code 5 = .ok (.sipush 255, 3) := by decide +kernel
theorem d37_8 : decode jdk_43_method_4_code 8 = .ok (.if_icmp .gt 7, 3) := by decide +kernel
theorem d37_11 : decode jdk_43_method_4_code 11 = .ok (.iconst 1, 1) := by decide +kernel
theorem d37_12 : decode jdk_43_method_4_code 12 = .ok (.goto 4, 3) := by decide +kernel
theorem d37_16 : decode jdk_43_method_4_code 16 = .ok (.ireturn, 1) := by decide +kernel
theorem ef_37_I (m : MethodId) (x0 : Int32) : entryFrame m #[(.int x0)] 1 = mkF m 0 #[vi x0] [] := by first | (simp [entryFrame, mkF, argsToLocals, Value.category]; done) | rfl
def Qrm37 (Z : State)  (h0 : Heap) (n0 : Nat) (v : Option Value) (h : Heap) (L : List Loc) : Prop := v = some (.int 1) ∧ Fr n0 L ∧ h = h0
set_option maxRecDepth 65536 in
set_option maxHeartbeats 40000000 in
theorem rm37 (l : Launch) (Z : State) (a0 : Array Value) (hw : ∀ d ∈ tables_1, d.before a0 Z = true) (ws : List Jvm.Cond)  (h0 : Heap) (n0 : Nat) (O0 : Old Z n0 h0) :
    MF l Z h0 (⟨"java/lang/StringLatin1", "canEncode", "(I)Z"⟩ : MethodName) jdk_43_method_4_code 1 (some .boolean) ws (⟨0, 0, 0, 0⟩ : Room) #[(.int 61)] (Qrm37 Z  h0 n0) := by
  refine MetFree.of_bodySF (plainFor_of_name pn_7) hisR ?_
  intro p e s m args below meth c s₁ Bd hml0 hP hK
  obtain ⟨rfl, hZ, hh⟩ := hP
  have hx := Bd.exec
  have hby := Bd.bytes
  have X0 : Stand p l e (⟨0, 0, 0, 0⟩ : Room) s m #[(.int 61)] below meth c s₁ [] 0 0 := Stand.of_body Bd
  have e0 : s₁.heap = h0 := by rw [← hh, Bd.state]; rfl
  have N0 := Fr.nil n0
  have pre0 : ∀ t, Steps p.tables e below (s₁.setTop (mkF m 0 #[vi 61] [])) t → Steps p.tables e below (s₁.setTop (entryFrame m #[(.int 61)] 1)) t := fun t k => castTop (ef_37_I m (61 : Int32)) k
  obtain ⟨fs, hr, hrun, hended, hW, hsame⟩ := X0.leave (v := some (.int 1)) (fun h => by rw [Bd.returns] at h; cases h)
  refine ⟨_, _, pre0 _ ?_, hrun, hended, _, _, rfl, ?_, ⟨_, rfl⟩, hW, hsame.mono (by decide) (by decide)⟩
  · show Steps p.tables e below (s₁.setTop (mkF m 0 #[vi 61] [])) _
    refine XS.iloadN X0.here hx rfl (hb hby d37_0) rfl ?_
    refine XS.ifNo X0.here hx rfl (hb hby d37_1) rfl ((if0 _ _).trans (flt ((by decide) : ¬ ((61 : Int32) < (0 : Int32)))).1) ?_
    refine XS.iloadN X0.here hx rfl (hb hby d37_4) rfl ?_
    refine XS.sipush X0.here hx rfl (hb hby d37_5) ?_
    refine XS.icmpNo X0.here hx rfl (hb hby d37_8) rfl (flt ((by decide) : ¬ ((255 : Int32) < (61 : Int32)))).2.2.1 ?_
    refine XS.iconst X0.here hx rfl (hb hby d37_11) ?_
    refine XS.goto X0.here hx rfl (pc0 := 12) (pc' := 16) rfl (hb hby d37_12) (by decide) (by decide) ?_
    exact retN X0 hx (t := .boolean) Bd.returns (by simp) (hb hby d37_16) hr
  · show Qrm37 Z  h0 n0 _ s₁.heap _
    rw [e0]
    exact ⟨rfl, N0, rfl⟩
theorem pd_40 : parseMethodDescriptor "(I)Z" = some ⟨[.int], some .boolean⟩ := by decide +kernel
theorem d36_4 : decode jdk_43_method_22_code 4 = .ok (.ifCond .ne 5, 3) := by decide +kernel
theorem d36_9 : decode jdk_43_method_22_code 9 = .ok (.iload_n 2, 1) := by decide +kernel
theorem d36_10 : decode jdk_43_method_22_code 10 = .ok (.iconst 0, 1) := by decide +kernel
theorem d36_11 : decode jdk_43_method_22_code 11 = .ok (.invokestatic 92, 3) := by decide +kernel
theorem d36_14 : decode jdk_43_method_22_code 14 = .ok (.istore_n 2, 1) := by decide +kernel
theorem d36_15 : decode jdk_43_method_22_code 15 = .ok (.iload_n 3, 1) := by decide +kernel
theorem d36_16 : decode jdk_43_method_22_code 16 = .ok (.aload_n 0, 1) := by decide +kernel
theorem d36_17 : decode jdk_43_method_22_code 17 = .ok (.arraylength, 1) := by decide +kernel
theorem d36_18 : decode jdk_43_method_22_code 18 = .ok (.invokestatic 38, 3) := by decide +kernel
theorem d38_0 : decode jdk_29_method_69_code 0 = .ok (.iload_n 0, 1) := by decide +kernel
theorem d38_1 : decode jdk_29_method_69_code 1 = .ok (.iload_n 1, 1) := by decide +kernel
theorem d38_2 : decode jdk_29_method_69_code 2 = .ok (.if_icmp .gt 7, 3) := by decide +kernel
theorem d38_9 : decode jdk_29_method_69_code 9 = .ok (.iload_n 1, 1) := by decide +kernel
theorem d38_10 : decode jdk_29_method_69_code 10 = .ok (.ireturn, 1) := by decide +kernel
theorem d38_5 : decode jdk_29_method_69_code 5 = .ok (.iload_n 0, 1) := by decide +kernel
theorem d38_6 : decode jdk_29_method_69_code 6 = .ok (.goto 4, 3) := by decide +kernel
theorem ef_38_II (m : MethodId) (x0 : Int32) (x1 : Int32) : entryFrame m #[(.int x0), (.int x1)] 2 = mkF m 0 #[vi x0, vi x1] [] := by first | (simp [entryFrame, mkF, argsToLocals, Value.category]; done) | rfl
def Qrm38 (Z : State) (p1 : Int32) (p2 : Int32) (h0 : Heap) (n0 : Nat) (v : Option Value) (h : Heap) (L : List Loc) : Prop := v = some (.int (own_minI p1 p2)) ∧ Fr n0 L ∧ h = h0
set_option maxRecDepth 65536 in
set_option maxHeartbeats 40000000 in
theorem rm38 (l : Launch) (Z : State) (a0 : Array Value) (hw : ∀ d ∈ tables_1, d.before a0 Z = true) (ws : List Jvm.Cond) (p1 : Int32) (p2 : Int32) (h0 : Heap) (n0 : Nat) (O0 : Old Z n0 h0) :
    MF l Z h0 (⟨"java/lang/Math", "min", "(II)I"⟩ : MethodName) jdk_29_method_69_code 2 (some .int) ws (⟨0, 0, 0, 0⟩ : Room) #[(.int p1), (.int p2)] (Qrm38 Z p1 p2 h0 n0) := by
  refine MetFree.of_bodySF (Jvm.Free.JP.mathPlain rfl (by decide +kernel)) hisR ?_
  intro p e s m args below meth c s₁ Bd hml0 hP hK
  obtain ⟨rfl, hZ, hh⟩ := hP
  have hx := Bd.exec
  have hby := Bd.bytes
  have X0 : Stand p l e (⟨0, 0, 0, 0⟩ : Room) s m #[(.int p1), (.int p2)] below meth c s₁ [] 0 0 := Stand.of_body Bd
  have e0 : s₁.heap = h0 := by rw [← hh, Bd.state]; rfl
  have N0 := Fr.nil n0
  have pre0 : ∀ t, Steps p.tables e below (s₁.setTop (mkF m 0 #[vi p1, vi p2] [])) t → Steps p.tables e below (s₁.setTop (entryFrame m #[(.int p1), (.int p2)] 2)) t := fun t k => castTop (ef_38_II m p1 p2) k
  have pre3 : ∀ t, Steps p.tables e below (s₁.setTop (mkF m 2 #[vi p1, vi p2] [(.int p2), (.int p1)])) t → Steps p.tables e below (s₁.setTop (entryFrame m #[(.int p1), (.int p2)] 2)) t := fun t kt => pre0 t (by
    show Steps p.tables e below (s₁.setTop (mkF m 0 #[vi p1, vi p2] [])) _
    refine XS.iloadN X0.here hx rfl (hb hby d38_0) rfl ?_
    refine XS.iloadN X0.here hx rfl (hb hby d38_1) rfl ?_
    exact kt)
  by_cases hc : p2 < p1
  · obtain ⟨fs, hr, hrun, hended, hW, hsame⟩ := X0.leave (v := some (.int p2)) (fun h => by rw [Bd.returns] at h; cases h)
    refine ⟨_, _, pre3 _ ?_, hrun, hended, _, _, rfl, ?_, ⟨_, rfl⟩, hW, hsame.mono (by decide) (by decide)⟩
    · show Steps p.tables e below (s₁.setTop (mkF m 2 #[vi p1, vi p2] [(.int p2), (.int p1)])) _
      refine XS.icmpYes X0.here hx rfl (pc0 := 2) (pc' := 9) rfl (hb hby d38_2) rfl (tlt (hc : p2 < p1)).2.2.1 (by decide) (by decide) ?_
      refine XS.iloadN X0.here hx rfl (hb hby d38_9) rfl ?_
      exact retI X0 hx Bd.returns (hb hby d38_10) hr
    · show Qrm38 Z p1 p2 h0 n0 _ s₁.heap _
      rw [e0]
      exact ⟨(by rw [own_minI, if_pos hc]), N0, rfl⟩
  · obtain ⟨fs, hr, hrun, hended, hW, hsame⟩ := X0.leave (v := some (.int p1)) (fun h => by rw [Bd.returns] at h; cases h)
    refine ⟨_, _, pre3 _ ?_, hrun, hended, _, _, rfl, ?_, ⟨_, rfl⟩, hW, hsame.mono (by decide) (by decide)⟩
    · show Steps p.tables e below (s₁.setTop (mkF m 2 #[vi p1, vi p2] [(.int p2), (.int p1)])) _
      refine XS.icmpNo X0.here hx rfl (hb hby d38_2) rfl (flt (hc : ¬ (p2 < p1))).2.2.1 ?_
      refine XS.iloadN X0.here hx rfl (hb hby d38_5) rfl ?_
      refine XS.goto X0.here hx rfl (pc0 := 6) (pc' := 10) rfl (hb hby d38_6) (by decide) (by decide) ?_
      exact retI X0 hx Bd.returns (hb hby d38_10) hr
    · show Qrm38 Z p1 p2 h0 n0 _ s₁.heap _
      rw [e0]
      exact ⟨(by rw [own_minI, if_neg hc]), N0, rfl⟩
theorem d36_21 : decode jdk_43_method_22_code 21 = .ok (.istore_n 3, 1) := by decide +kernel
theorem d36_22 : decode jdk_43_method_22_code 22 = .ok (.iload_n 2, 1) := by decide +kernel
theorem d36_23 : decode jdk_43_method_22_code 23 = .ok (.iload_n 3, 1) := by decide +kernel
theorem d36_24 : decode jdk_43_method_22_code 24 = .ok (.if_icmp .lt 5, 3) := by decide +kernel
theorem d36_29 : decode jdk_43_method_22_code 29 = .ok (.aload_n 0, 1) := by decide +kernel
theorem d36_30 : decode jdk_43_method_22_code 30 = .ok (.iload_n 1, 1) := by decide +kernel
theorem d36_31 : decode jdk_43_method_22_code 31 = .ok (.iload_n 2, 1) := by decide +kernel
theorem d36_32 : decode jdk_43_method_22_code 32 = .ok (.iload_n 3, 1) := by decide +kernel
theorem d36_33 : decode jdk_43_method_22_code 33 = .ok (.invokestatic 95, 3) := by decide +kernel
theorem d39_0 : decode jdk_43_method_23_code 0 = .ok (.iload_n 1, 1) := by decide +kernel
theorem d39_1 : decode jdk_43_method_23_code 1 = .ok (.i2b, 1) := by decide +kernel
theorem d39_2 : decode jdk_43_method_23_code 2 = .ok (.istore 4, 2) := by decide +kernel
theorem d39_4 : decode jdk_43_method_23_code 4 = .ok (.iload_n 2, 1) := by decide +kernel
theorem d39_5 : decode jdk_43_method_23_code 5 = .ok (.istore 5, 2) := by decide +kernel
theorem d39_7 : decode jdk_43_method_23_code 7 = .ok (.iload 5, 2) := by decide +kernel
theorem d39_9 : decode jdk_43_method_23_code 9 = .ok (.iload_n 3, 1) := by decide +kernel
theorem d39_10 : decode jdk_43_method_23_code 10 = .ok (.if_icmp .ge 21, 3) := by decide +kernel
theorem d39_13 : decode jdk_43_method_23_code 13 = .ok (.aload_n 0, 1) := by decide +kernel
theorem d39_14 : decode jdk_43_method_23_code 14 = .ok (.iload 5, 2) := by decide +kernel
theorem d39_16 : decode jdk_43_method_23_code 16 = .ok (.baload, 1) := by decide +kernel
theorem d39_17 : decode jdk_43_method_23_code 17 = .ok (.iload 4, 2) := by decide +kernel
theorem d39_19 : decode jdk_43_method_23_code 19 = .ok (.if_icmp .ne 6, 3) := by decide +kernel
theorem d39_25 : decode jdk_43_method_23_code 25 = .ok (.iinc 5 1, 3) := by decide +kernel
theorem d39_28 : decode jdk_43_method_23_code 28 = .ok (.goto (-21), 3) := by decide +kernel
theorem d39_31 : decode jdk_43_method_23_code 31 = .ok (.iconst (-1), 1) := by decide +kernel
theorem d39_32 : decode jdk_43_method_23_code 32 = .ok (.ireturn, 1) := by decide +kernel
theorem ef_39_RIII (m : MethodId) (x0 : Addr) (x1 : Int32) (x2 : Int32) (x3 : Int32) : entryFrame m #[(.ref x0), (.int x1), (.int x2), (.int x3)] 6 = mkF m 0 #[vr x0, vi x1, vi x2, vi x3, .unset, .unset] [] := by first | (simp [entryFrame, mkF, argsToLocals, Value.category]; done) | rfl
def Qrm39 (Z : State) (a1 : Addr) (k2 : ClassId) (p3 : Int32) (p4 : Int32) (p5 : Int32) (p6 : Int32) (h0 : Heap) (n0 : Nat) (v : Option Value) (h : Heap) (L : List Loc) : Prop := v = some (.int (-1)) ∧ Fr n0 L ∧ h = h0
set_option maxRecDepth 65536 in
set_option maxHeartbeats 40000000 in
theorem rm39 (l : Launch) (Z : State) (a0 : Array Value) (hw : ∀ d ∈ tables_1, d.before a0 Z = true) (ws : List Jvm.Cond) (a1 : Addr) (k2 : ClassId) (p3 : Int32) (p4 : Int32) (p5 : Int32) (p6 : Int32) (h0 : Heap) (n0 : Nat) (O0 : Old Z n0 h0) (V_7 : Arv Z h0 a1 k2 .byte (4 : Int32) [(.int p3), (.int p4), (.int p5), (.int p6)] (.int 0)) (hc9 : ¬ (p3 = (61 : Int32))) (hc11 : ¬ (p4 = (61 : Int32))) (hc13 : ¬ (p5 = (61 : Int32))) (hc15 : ¬ (p6 = (61 : Int32))) :
    MF l Z h0 (⟨"java/lang/StringLatin1", "indexOfChar", "([BIII)I"⟩ : MethodName) jdk_43_method_23_code 6 (some .int) ws (⟨0, 0, 0, 0⟩ : Room) #[(.ref a1), (.int 61), (.int 0), (.int 4)] (Qrm39 Z a1 k2 p3 p4 p5 p6 h0 n0) := by
  refine MetFree.of_bodySF (plainFor_of_name pn_7) hisR ?_
  intro p e s m args below meth c s₁ Bd hml0 hP hK
  obtain ⟨rfl, hZ, hh⟩ := hP
  have hx := Bd.exec
  have hby := Bd.bytes
  have X0 : Stand p l e (⟨0, 0, 0, 0⟩ : Room) s m #[(.ref a1), (.int 61), (.int 0), (.int 4)] below meth c s₁ [] 0 0 := Stand.of_body Bd
  have e0 : s₁.heap = h0 := by rw [← hh, Bd.state]; rfl
  have N0 := Fr.nil n0
  have pre0 : ∀ t, Steps p.tables e below (s₁.setTop (mkF m 0 #[vr a1, vi 61, vi 0, vi 4, .unset, .unset] [])) t → Steps p.tables e below (s₁.setTop (entryFrame m #[(.ref a1), (.int 61), (.int 0), (.int 4)] 6)) t := fun t k => castTop (ef_39_RIII m a1 (61 : Int32) (0 : Int32) (4 : Int32)) k
  obtain ⟨cl8, Ar8, q8, S8, M8, Hs8, G8⟩ := id V_7
  have hin8 : ¬ ((0 : Int32) < 0 ∨ cl8.slots.size ≤ ((0 : Int32)).toNatClampNeg) := inb_of S8 ⟨by decide, by decide⟩
  have hat8 : cl8.slots[((0 : Int32)).toNatClampNeg]? = some (.int p3) := Has.at Hs8 hin8 rfl
  obtain ⟨cl10, Ar10, q10, S10, M10, Hs10, G10⟩ := id V_7
  have hin10 : ¬ ((1 : Int32) < 0 ∨ cl10.slots.size ≤ ((1 : Int32)).toNatClampNeg) := inb_of S10 ⟨by decide, by decide⟩
  have hat10 : cl10.slots[((1 : Int32)).toNatClampNeg]? = some (.int p4) := Has.at Hs10 hin10 rfl
  obtain ⟨cl12, Ar12, q12, S12, M12, Hs12, G12⟩ := id V_7
  have hin12 : ¬ ((2 : Int32) < 0 ∨ cl12.slots.size ≤ ((2 : Int32)).toNatClampNeg) := inb_of S12 ⟨by decide, by decide⟩
  have hat12 : cl12.slots[((2 : Int32)).toNatClampNeg]? = some (.int p5) := Has.at Hs12 hin12 rfl
  obtain ⟨cl14, Ar14, q14, S14, M14, Hs14, G14⟩ := id V_7
  have hin14 : ¬ ((3 : Int32) < 0 ∨ cl14.slots.size ≤ ((3 : Int32)).toNatClampNeg) := inb_of S14 ⟨by decide, by decide⟩
  have hat14 : cl14.slots[((3 : Int32)).toNatClampNeg]? = some (.int p6) := Has.at Hs14 hin14 rfl
  obtain ⟨fs, hr, hrun, hended, hW, hsame⟩ := X0.leave (v := some (.int (-1))) (fun h => by rw [Bd.returns] at h; cases h)
  refine ⟨_, _, pre0 _ ?_, hrun, hended, _, _, rfl, ?_, ⟨_, rfl⟩, hW, hsame.mono (by decide) (by decide)⟩
  · show Steps p.tables e below (s₁.setTop (mkF m 0 #[vr a1, vi 61, vi 0, vi 4, .unset, .unset] [])) _
    refine XS.iloadN X0.here hx rfl (hb hby d39_0) rfl ?_
    refine XS.i2b X0.here hx rfl (hb hby d39_1) rfl ?_
    show Steps p.tables e below (s₁.setTop (mkF m 2 #[vr a1, vi 61, vi 0, vi 4, .unset, .unset] [(.int ((61 : Int32).toInt8.toInt32))])) _
    rw [show ((61 : Int32).toInt8.toInt32) = (61 : Int32) from by decide]
    refine XS.istore X0.here hx rfl (hb hby d39_2) rfl (l' := #[vr a1, vi 61, vi 0, vi 4, vi 61, .unset]) rfl ?_
    refine XS.iloadN X0.here hx rfl (hb hby d39_4) rfl ?_
    refine XS.istore X0.here hx rfl (hb hby d39_5) rfl (l' := #[vr a1, vi 61, vi 0, vi 4, vi 61, vi 0]) rfl ?_
    refine XS.iload X0.here hx rfl (hb hby d39_7) rfl ?_
    refine XS.iloadN X0.here hx rfl (hb hby d39_9) rfl ?_
    refine XS.icmpNo X0.here hx rfl (hb hby d39_10) rfl (tlt ((by decide) : (0 : Int32) < (4 : Int32))).2.1 ?_
    refine XS.aloadN X0.here hx rfl (hb hby d39_13) rfl rfl ?_
    refine XS.iload X0.here hx rfl (hb hby d39_14) rfl ?_
    refine X0.baloadBytes hx (j := (0 : Int32)) (v := (.int p3)) (by rw [e0]; exact Ar8.1) (State.isArrayOf_alike hZ.alike Ar8.2.1) Ar8.2.2 hin8 hat8 (g := (mkF m 16 #[vr a1, vi 61, vi 0, vi 4, vi 61, vi 0] [(.int 0), (.ref a1)])) rfl rfl (hb hby d39_16) _ ?_
    show Steps p.tables e below (s₁.setTop (mkF m 17 #[vr a1, vi 61, vi 0, vi 4, vi 61, vi 0] [(.int p3)])) _
    refine XS.iload X0.here hx rfl (hb hby d39_17) rfl ?_
    refine XS.icmpYes X0.here hx rfl (pc0 := 19) (pc' := 25) rfl (hb hby d39_19) rfl (feq (hc9 : ¬ (p3 = (61 : Int32)))).2 (by decide) (by decide) ?_
    refine XS.iinc X0.here hx rfl (hb hby d39_25) rfl (l' := #[vr a1, vi 61, vi 0, vi 4, vi 61, vi 1]) rfl ?_
    refine XS.goto X0.here hx rfl (pc0 := 28) (pc' := 7) rfl (hb hby d39_28) (by decide) (by decide) ?_
    refine XS.iload X0.here hx rfl (hb hby d39_7) rfl ?_
    refine XS.iloadN X0.here hx rfl (hb hby d39_9) rfl ?_
    refine XS.icmpNo X0.here hx rfl (hb hby d39_10) rfl (tlt ((by decide) : (1 : Int32) < (4 : Int32))).2.1 ?_
    refine XS.aloadN X0.here hx rfl (hb hby d39_13) rfl rfl ?_
    refine XS.iload X0.here hx rfl (hb hby d39_14) rfl ?_
    refine X0.baloadBytes hx (j := (1 : Int32)) (v := (.int p4)) (by rw [e0]; exact Ar10.1) (State.isArrayOf_alike hZ.alike Ar10.2.1) Ar10.2.2 hin10 hat10 (g := (mkF m 16 #[vr a1, vi 61, vi 0, vi 4, vi 61, vi 1] [(.int 1), (.ref a1)])) rfl rfl (hb hby d39_16) _ ?_
    show Steps p.tables e below (s₁.setTop (mkF m 17 #[vr a1, vi 61, vi 0, vi 4, vi 61, vi 1] [(.int p4)])) _
    refine XS.iload X0.here hx rfl (hb hby d39_17) rfl ?_
    refine XS.icmpYes X0.here hx rfl (pc0 := 19) (pc' := 25) rfl (hb hby d39_19) rfl (feq (hc11 : ¬ (p4 = (61 : Int32)))).2 (by decide) (by decide) ?_
    refine XS.iinc X0.here hx rfl (hb hby d39_25) rfl (l' := #[vr a1, vi 61, vi 0, vi 4, vi 61, vi 2]) rfl ?_
    refine XS.goto X0.here hx rfl (pc0 := 28) (pc' := 7) rfl (hb hby d39_28) (by decide) (by decide) ?_
    refine XS.iload X0.here hx rfl (hb hby d39_7) rfl ?_
    refine XS.iloadN X0.here hx rfl (hb hby d39_9) rfl ?_
    refine XS.icmpNo X0.here hx rfl (hb hby d39_10) rfl (tlt ((by decide) : (2 : Int32) < (4 : Int32))).2.1 ?_
    refine XS.aloadN X0.here hx rfl (hb hby d39_13) rfl rfl ?_
    refine XS.iload X0.here hx rfl (hb hby d39_14) rfl ?_
    refine X0.baloadBytes hx (j := (2 : Int32)) (v := (.int p5)) (by rw [e0]; exact Ar12.1) (State.isArrayOf_alike hZ.alike Ar12.2.1) Ar12.2.2 hin12 hat12 (g := (mkF m 16 #[vr a1, vi 61, vi 0, vi 4, vi 61, vi 2] [(.int 2), (.ref a1)])) rfl rfl (hb hby d39_16) _ ?_
    show Steps p.tables e below (s₁.setTop (mkF m 17 #[vr a1, vi 61, vi 0, vi 4, vi 61, vi 2] [(.int p5)])) _
    refine XS.iload X0.here hx rfl (hb hby d39_17) rfl ?_
    refine XS.icmpYes X0.here hx rfl (pc0 := 19) (pc' := 25) rfl (hb hby d39_19) rfl (feq (hc13 : ¬ (p5 = (61 : Int32)))).2 (by decide) (by decide) ?_
    refine XS.iinc X0.here hx rfl (hb hby d39_25) rfl (l' := #[vr a1, vi 61, vi 0, vi 4, vi 61, vi 3]) rfl ?_
    refine XS.goto X0.here hx rfl (pc0 := 28) (pc' := 7) rfl (hb hby d39_28) (by decide) (by decide) ?_
    refine XS.iload X0.here hx rfl (hb hby d39_7) rfl ?_
    refine XS.iloadN X0.here hx rfl (hb hby d39_9) rfl ?_
    refine XS.icmpNo X0.here hx rfl (hb hby d39_10) rfl (tlt ((by decide) : (3 : Int32) < (4 : Int32))).2.1 ?_
    refine XS.aloadN X0.here hx rfl (hb hby d39_13) rfl rfl ?_
    refine XS.iload X0.here hx rfl (hb hby d39_14) rfl ?_
    refine X0.baloadBytes hx (j := (3 : Int32)) (v := (.int p6)) (by rw [e0]; exact Ar14.1) (State.isArrayOf_alike hZ.alike Ar14.2.1) Ar14.2.2 hin14 hat14 (g := (mkF m 16 #[vr a1, vi 61, vi 0, vi 4, vi 61, vi 3] [(.int 3), (.ref a1)])) rfl rfl (hb hby d39_16) _ ?_
    show Steps p.tables e below (s₁.setTop (mkF m 17 #[vr a1, vi 61, vi 0, vi 4, vi 61, vi 3] [(.int p6)])) _
    refine XS.iload X0.here hx rfl (hb hby d39_17) rfl ?_
    refine XS.icmpYes X0.here hx rfl (pc0 := 19) (pc' := 25) rfl (hb hby d39_19) rfl (feq (hc15 : ¬ (p6 = (61 : Int32)))).2 (by decide) (by decide) ?_
    refine XS.iinc X0.here hx rfl (hb hby d39_25) rfl (l' := #[vr a1, vi 61, vi 0, vi 4, vi 61, vi 4]) rfl ?_
    refine XS.goto X0.here hx rfl (pc0 := 28) (pc' := 7) rfl (hb hby d39_28) (by decide) (by decide) ?_
    refine XS.iload X0.here hx rfl (hb hby d39_7) rfl ?_
    refine XS.iloadN X0.here hx rfl (hb hby d39_9) rfl ?_
    refine XS.icmpYes X0.here hx rfl (pc0 := 10) (pc' := 31) rfl (hb hby d39_10) rfl (flt ((by decide) : ¬ ((4 : Int32) < (4 : Int32)))).2.1 (by decide) (by decide) ?_
    refine XS.iconst X0.here hx rfl (hb hby d39_31) ?_
    exact retI X0 hx Bd.returns (hb hby d39_32) hr
  · show Qrm39 Z a1 k2 p3 p4 p5 p6 h0 n0 _ s₁.heap _
    rw [e0]
    exact ⟨rfl, N0, rfl⟩
theorem pd_41 : parseMethodDescriptor "([BIII)I" = some ⟨[(.array .byte), .int, .int, .int], some .int⟩ := by decide +kernel
theorem d36_36 : decode jdk_43_method_22_code 36 = .ok (.ireturn, 1) := by decide +kernel
theorem ef_36_RIII (m : MethodId) (x0 : Addr) (x1 : Int32) (x2 : Int32) (x3 : Int32) : entryFrame m #[(.ref x0), (.int x1), (.int x2), (.int x3)] 4 = mkF m 0 #[vr x0, vi x1, vi x2, vi x3] [] := by first | (simp [entryFrame, mkF, argsToLocals, Value.category]; done) | rfl
def Qrm36 (Z : State) (a1 : Addr) (k4 : ClassId) (p5 : Int32) (p6 : Int32) (p7 : Int32) (p8 : Int32) (h0 : Heap) (n0 : Nat) (v : Option Value) (h : Heap) (L : List Loc) : Prop := v = some (.int (-1)) ∧ Fr n0 L ∧ h = h0
set_option maxRecDepth 65536 in
set_option maxHeartbeats 40000000 in
theorem rm36 (l : Launch) (Z : State) (a0 : Array Value) (hw : ∀ d ∈ tables_1, d.before a0 Z = true) (ws : List Jvm.Cond) (a1 : Addr) (k4 : ClassId) (p5 : Int32) (p6 : Int32) (p7 : Int32) (p8 : Int32) (h0 : Heap) (n0 : Nat) (O0 : Old Z n0 h0) (V_9 : Arv Z h0 a1 k4 .byte (4 : Int32) [(.int p5), (.int p6), (.int p7), (.int p8)] (.int 0)) (hc12 : ¬ (p5 = (61 : Int32))) (hc13 : ¬ (p6 = (61 : Int32))) (hc14 : ¬ (p7 = (61 : Int32))) (hc15 : ¬ (p8 = (61 : Int32))) :
    MF l Z h0 (⟨"java/lang/StringLatin1", "indexOf", "([BIII)I"⟩ : MethodName) jdk_43_method_22_code 4 (some .int) ws (⟨1, 0, 0, 17⟩ : Room) #[(.ref a1), (.int 61), (.int 0), (.int 4)] (Qrm36 Z a1 k4 p5 p6 p7 p8 h0 n0) := by
  refine MetFree.of_bodySF (plainFor_of_name pn_7) hisR ?_
  intro p e s m args below meth c s₁ Bd hml0 hP hK
  obtain ⟨rfl, hZ, hh⟩ := hP
  have hx := Bd.exec
  have hby := Bd.bytes
  have hml : c.maxLocals = 4 := hml0
  have hown : s.vm.findClass "java/lang/StringLatin1" = some m.cls := findClass_of_methodNamed Bd.named
  have X0 : Stand p l e (⟨1, 0, 0, 17⟩ : Room) s m #[(.ref a1), (.int 61), (.int 0), (.int 4)] below meth c s₁ [] 0 0 := Stand.of_body Bd
  have e0 : s₁.heap = h0 := by rw [← hh, Bd.state]; rfl
  have N0 := Fr.nil n0
  have pre0 : ∀ t, Steps p.tables e below (s₁.setTop (mkF m 0 #[vr a1, vi 61, vi 0, vi 4] [])) t → Steps p.tables e below (s₁.setTop (entryFrame m #[(.ref a1), (.int 61), (.int 0), (.int 4)] 4)) t := fun t k => castTop (ef_36_RIII m a1 (61 : Int32) (0 : Int32) (4 : Int32)) k
  obtain ⟨_, T2, L2, X2, hQ2, st2⟩ := cS X0 hx hZ hown (W hw 200 rfl) (W hw 201 rfl) (W hw 35 rfl) (W hw 202 rfl) (by decide) (rm37 l Z a0 hw []  h0 n0 O0 ) e0 #[vr a1, vi 61, vi 0, vi 4] [] (by rw [hml]; rfl) (hb hby d36_1) pd_40 rfl (W := 0) (Nat.le_of_eq rfl) (by decide) (by decide) (by decide) (by decide)
  obtain ⟨rfl, Nq2, e2⟩ := hQ2
  have N2 := Fr.app N0 Nq2
  obtain ⟨_, T3, L3, X3, hQ3, st3⟩ := cS X2 hx hZ hown (W hw 203 rfl) (W hw 93 rfl) (W hw 94 rfl) (W hw 95 rfl) (by decide) (rm18 l Z a0 hw [] (0 : Int32) (0 : Int32) h0 n0 O0 ) e2 #[vr a1, vi 61, vi 0, vi 4] [] (by rw [hml]; rfl) (hb hby d36_11) pd_16 rfl (W := 0) (Nat.le_of_eq rfl) (by decide) (by decide) (by decide) (by decide)
  obtain ⟨rfl, Nq3, e3⟩ := hQ3
  have N3 := Fr.app N2 Nq3
  obtain ⟨cl10, Ar10, q10, S10, M10, Hs10, G10⟩ := id V_9
  obtain ⟨_, T11, L11, X11, hQ11, st11⟩ := cS X3 hx hZ hown (W hw 204 rfl) (W hw 205 rfl) (W hw 94 rfl) (W hw 206 rfl) (by decide) (rm38 l Z a0 hw [] (4 : Int32) (4 : Int32) h0 n0 O0 ) e3 #[vr a1, vi 61, vi 0, vi 4] [] (by rw [hml]; rfl) (hb hby d36_18) pd_16 rfl (W := 0) (Nat.le_of_eq rfl) (by decide) (by decide) (by decide) (by decide)
  obtain ⟨rfl, Nq11, e11⟩ := hQ11
  have N11 := Fr.app N3 Nq11
  obtain ⟨_, T16, L16, X16, hQ16, st16⟩ := cS X11 hx hZ hown (W hw 207 rfl) (W hw 208 rfl) (W hw 35 rfl) (W hw 209 rfl) (by decide) (rm39 l Z a0 hw [] a1 k4 p5 p6 p7 p8 h0 n0 O0 V_9 hc12 hc13 hc14 hc15) e11 #[vr a1, vi 61, vi 0, vi 4] [] (by rw [hml]; rfl) (hb hby d36_33) pd_41 rfl (W := 0) (Nat.le_of_eq rfl) (by decide) (by decide) (by decide) (by decide)
  obtain ⟨rfl, Nq16, e16⟩ := hQ16
  have N16 := Fr.app N11 Nq16
  obtain ⟨fs, hr, hrun, hended, hW, hsame⟩ := X16.leave (v := some (.int (-1))) (fun h => by rw [Bd.returns] at h; cases h)
  refine ⟨_, _, pre0 _ ?_, hrun, hended, _, _, rfl, ?_, ⟨_, rfl⟩, hW, hsame.mono (by decide) (by decide)⟩
  · show Steps p.tables e below (s₁.setTop (mkF m 0 #[vr a1, vi 61, vi 0, vi 4] [])) _
    refine XS.iloadN X0.here hx rfl (hb hby d36_0) rfl ?_
    refine st2 _ ?_
    refine XS.ifYes X2.here hx rfl (pc0 := 4) (pc' := 9) rfl (hb hby d36_4) rfl ((if0 _ _).trans (feq ((by decide) : ¬ ((1 : Int32) = (0 : Int32)))).2) (by decide) (by decide) ?_
    refine XS.iloadN X2.here hx rfl (hb hby d36_9) rfl ?_
    refine XS.iconst X2.here hx rfl (hb hby d36_10) ?_
    refine st3 _ ?_
    show Steps p.tables e below (T3.setTop (mkF m 14 #[vr a1, vi 61, vi 0, vi 4] [(.int (own_maxI (0 : Int32) (0 : Int32)))])) _
    rw [show (own_maxI (0 : Int32) (0 : Int32)) = (0 : Int32) from by decide]
    refine XS.istoreN X3.here hx rfl (hb hby d36_14) rfl (l' := #[vr a1, vi 61, vi 0, vi 4]) rfl ?_
    refine XS.iloadN X3.here hx rfl (hb hby d36_15) rfl ?_
    refine XS.aloadN X3.here hx rfl (hb hby d36_16) rfl rfl ?_
    refine X3.arraylength hx (by rw [e3]; exact Ar10.1) (State.isArrayOf_alike hZ.alike Ar10.2.1) (g := (mkF m 17 #[vr a1, vi 61, vi 0, vi 4] [(.ref a1), (.int 4)])) rfl rfl (hb hby d36_17) _ ?_
    rw [len_of S10 M10]
    refine st11 _ ?_
    show Steps p.tables e below (T11.setTop (mkF m 21 #[vr a1, vi 61, vi 0, vi 4] [(.int (own_minI (4 : Int32) (4 : Int32)))])) _
    rw [show (own_minI (4 : Int32) (4 : Int32)) = (4 : Int32) from by decide]
    refine XS.istoreN X11.here hx rfl (hb hby d36_21) rfl (l' := #[vr a1, vi 61, vi 0, vi 4]) rfl ?_
    refine XS.iloadN X11.here hx rfl (hb hby d36_22) rfl ?_
    refine XS.iloadN X11.here hx rfl (hb hby d36_23) rfl ?_
    refine XS.icmpYes X11.here hx rfl (pc0 := 24) (pc' := 29) rfl (hb hby d36_24) rfl (tlt ((by decide) : (0 : Int32) < (4 : Int32))).1 (by decide) (by decide) ?_
    refine XS.aloadN X11.here hx rfl (hb hby d36_29) rfl rfl ?_
    refine XS.iloadN X11.here hx rfl (hb hby d36_30) rfl ?_
    refine XS.iloadN X11.here hx rfl (hb hby d36_31) rfl ?_
    refine XS.iloadN X11.here hx rfl (hb hby d36_32) rfl ?_
    refine st16 _ ?_
    show Steps p.tables e below (T16.setTop (mkF m 36 #[vr a1, vi 61, vi 0, vi 4] [(.int (-1))])) _
    exact retI X16 hx Bd.returns (hb hby d36_36) hr
  · show Qrm36 Z a1 k4 p5 p6 p7 p8 h0 n0 _ T16.heap _
    rw [e16]
    exact ⟨rfl, N16, rfl⟩
theorem d34_20 : decode jdk_42_method_80_code 20 = .ok (.goto 16, 3) := by decide +kernel
theorem d34_36 : decode jdk_42_method_80_code 36 = .ok (.ireturn, 1) := by decide +kernel
theorem ef_34_RII (m : MethodId) (x0 : Addr) (x1 : Int32) (x2 : Int32) : entryFrame m #[(.ref x0), (.int x1), (.int x2)] 3 = mkF m 0 #[vr x0, vi x1, vi x2] [] := by first | (simp [entryFrame, mkF, argsToLocals, Value.category]; done) | rfl
def Qrm34 (Z : State) (a1 : Addr) (p3 : Int32) (a8 : Addr) (k11 : ClassId) (p12 : Int32) (p13 : Int32) (p14 : Int32) (p15 : Int32) (h0 : Heap) (n0 : Nat) (v : Option Value) (h : Heap) (L : List Loc) : Prop := v = some (.int (-1)) ∧ Fr n0 L ∧ h = h0
set_option maxRecDepth 65536 in
set_option maxHeartbeats 40000000 in
theorem rm34 (l : Launch) (Z : State) (a0 : Array Value) (hw : ∀ d ∈ tables_1, d.before a0 Z = true) (ws : List Jvm.Cond) (a1 : Addr) (p3 : Int32) (a8 : Addr) (k11 : ClassId) (p12 : Int32) (p13 : Int32) (p14 : Int32) (p15 : Int32) (h0 : Heap) (n0 : Nat) (O0 : Old Z n0 h0) (E_2 : Exa Z h0 a1 "java/lang/String") (S_4 : Sta Z Z.heap "java/lang/String" "COMPACT_STRINGS" "Z" (.int p3)) (hc5 : ¬ (p3 = (0 : Int32))) (F_6 : Fld Z h0 a1 "java/lang/String" "coder" "B" (.int 0)) (F_9 : Fld Z h0 a1 "java/lang/String" "value" "[B" (.ref a8)) (V_16 : Arv Z h0 a8 k11 .byte (4 : Int32) [(.int p12), (.int p13), (.int p14), (.int p15)] (.int 0)) (hc18 : ¬ (p12 = (61 : Int32))) (hc19 : ¬ (p13 = (61 : Int32))) (hc20 : ¬ (p14 = (61 : Int32))) (hc21 : ¬ (p15 = (61 : Int32))) :
    MF l Z h0 (⟨"java/lang/String", "indexOf", "(II)I"⟩ : MethodName) jdk_42_method_80_code 3 (some .int) ws (⟨2, 0, 0, 32⟩ : Room) #[(.ref a1), (.int 61), (.int 0)] (Qrm34 Z a1 p3 a8 k11 p12 p13 p14 p15 h0 n0) := by
  refine MetFree.of_bodySF (plainFor_of_name pn_4) hisR ?_
  intro p e s m args below meth c s₁ Bd hml0 hP hK
  obtain ⟨rfl, hZ, hh⟩ := hP
  have hx := Bd.exec
  have hby := Bd.bytes
  have hml : c.maxLocals = 3 := hml0
  have hown : s.vm.findClass "java/lang/String" = some m.cls := findClass_of_methodNamed Bd.named
  have X0 : Stand p l e (⟨2, 0, 0, 32⟩ : Room) s m #[(.ref a1), (.int 61), (.int 0)] below meth c s₁ [] 0 0 := Stand.of_body Bd
  have e0 : s₁.heap = h0 := by rw [← hh, Bd.state]; rfl
  have N0 := Fr.nil n0
  have pre0 : ∀ t, Steps p.tables e below (s₁.setTop (mkF m 0 #[vr a1, vi 61, vi 0] [])) t → Steps p.tables e below (s₁.setTop (entryFrame m #[(.ref a1), (.int 61), (.int 0)] 3)) t := fun t k => castTop (ef_34_RII m a1 (61 : Int32) (0 : Int32)) k
  obtain ⟨_, T7, L7, X7, hQ7, st7⟩ := cV X0 hx hZ hown (W hw 192 rfl) (W hw 193 rfl) (notFace_of_selects (args := #[]) (mvT hZ (W hw 195 rfl))) (W hw 195 rfl) (W hw 194 rfl) (W hw 196 rfl) (W hw 2 rfl) (by decide) (rm35 l Z a0 hw [] a1 p3 h0 n0 O0 S_4 hc5 F_6) e0 E_2 #[vr a1, vi 61, vi 0] [] (by rw [hml]; rfl) (hb hby d34_1) pd_30 rfl (W := 0) (Nat.le_of_eq rfl) (by decide) (by decide) (by decide) (by decide)
  obtain ⟨rfl, Nq7, e7⟩ := hQ7
  have N7 := Fr.app N0 Nq7
  obtain ⟨T10, X10, e10, st10⟩ := getF X7 hx hZ hown (host := "") (Or.inl (W hw 28 rfl)) Via.refl e7 F_9 (g := (mkF m 8 #[vr a1, vi 61, vi 0] [(.ref a1)])) rfl rfl (hb hby d34_8)
  obtain ⟨_, T17, L17, X17, hQ17, st17⟩ := cV X10 hx hZ hown (W hw 168 rfl) (W hw 169 rfl) (notFace_of_selects (args := #[]) (mvT hZ (W hw 171 rfl))) (W hw 171 rfl) (W hw 170 rfl) (W hw 172 rfl) (W hw 2 rfl) (by decide) (rm30_2 l Z a0 hw [] a1 a8 k11 p12 p13 p14 p15 p3 h0 n0 O0 F_9 V_16 E_2 S_4 hc5 F_6) e10 E_2 #[vr a1, vi 61, vi 0] [(.int 0), (.int 61), (.ref a8)] (by rw [hml]; rfl) (hb hby d34_14) pd_23 rfl (W := 3) (Nat.le_of_eq rfl) (by decide) (by decide) (by decide) (by decide)
  obtain ⟨rfl, Nq17, e17⟩ := hQ17
  have N17 := Fr.app N7 Nq17
  obtain ⟨_, T22, L22, X22, hQ22, st22⟩ := cS X17 hx hZ hown (W hw 197 rfl) (W hw 198 rfl) (W hw 35 rfl) (W hw 199 rfl) (by decide) (rm36 l Z a0 hw [] a8 k11 p12 p13 p14 p15 h0 n0 O0 V_16 hc18 hc19 hc20 hc21) e17 #[vr a1, vi 61, vi 0] [] (by rw [hml]; rfl) (hb hby d34_17) pd_41 rfl (W := 0) (Nat.le_of_eq rfl) (by decide) (by decide) (by decide) (by decide)
  obtain ⟨rfl, Nq22, e22⟩ := hQ22
  have N22 := Fr.app N17 Nq22
  obtain ⟨fs, hr, hrun, hended, hW, hsame⟩ := X22.leave (v := some (.int (-1))) (fun h => by rw [Bd.returns] at h; cases h)
  refine ⟨_, _, pre0 _ ?_, hrun, hended, _, _, rfl, ?_, ⟨_, rfl⟩, hW, hsame.mono (by decide) (by decide)⟩
  · show Steps p.tables e below (s₁.setTop (mkF m 0 #[vr a1, vi 61, vi 0] [])) _
    refine XS.aloadN X0.here hx rfl (hb hby d34_0) rfl rfl ?_
    refine st7 _ ?_
    refine XS.ifNo X7.here hx rfl (hb hby d34_4) rfl ((if0 _ _).trans (feq ((by decide) : ¬ ((1 : Int32) = (0 : Int32)))).1) ?_
    refine XS.aloadN X7.here hx rfl (hb hby d34_7) rfl rfl ?_
    refine st10 _ ?_
    refine XS.iloadN X10.here hx rfl (hb hby d34_11) rfl ?_
    refine XS.iloadN X10.here hx rfl (hb hby d34_12) rfl ?_
    refine XS.aloadN X10.here hx rfl (hb hby d34_13) rfl rfl ?_
    refine st17 _ ?_
    refine st22 _ ?_
    show Steps p.tables e below (T22.setTop (mkF m 20 #[vr a1, vi 61, vi 0] [(.int (-1))])) _
    refine XS.goto X22.here hx rfl (pc0 := 20) (pc' := 36) rfl (hb hby d34_20) (by decide) (by decide) ?_
    exact retI X22 hx Bd.returns (hb hby d34_36) hr
  · show Qrm34 Z a1 p3 a8 k11 p12 p13 p14 p15 h0 n0 _ T22.heap _
    rw [e22]
    exact ⟨rfl, N22, rfl⟩
theorem d33_6 : decode jdk_42_method_79_code 6 = .ok (.ireturn, 1) := by decide +kernel
theorem ef_33_RI (m : MethodId) (x0 : Addr) (x1 : Int32) : entryFrame m #[(.ref x0), (.int x1)] 2 = mkF m 0 #[vr x0, vi x1] [] := by first | (simp [entryFrame, mkF, argsToLocals, Value.category]; done) | rfl
def Qrm33 (Z : State) (a1 : Addr) (p3 : Int32) (a7 : Addr) (k9 : ClassId) (p10 : Int32) (p11 : Int32) (p12 : Int32) (p13 : Int32) (h0 : Heap) (n0 : Nat) (v : Option Value) (h : Heap) (L : List Loc) : Prop := v = some (.int (-1)) ∧ Fr n0 L ∧ h = h0
set_option maxRecDepth 65536 in
set_option maxHeartbeats 40000000 in
theorem rm33 (l : Launch) (Z : State) (a0 : Array Value) (hw : ∀ d ∈ tables_1, d.before a0 Z = true) (ws : List Jvm.Cond) (a1 : Addr) (p3 : Int32) (a7 : Addr) (k9 : ClassId) (p10 : Int32) (p11 : Int32) (p12 : Int32) (p13 : Int32) (h0 : Heap) (n0 : Nat) (O0 : Old Z n0 h0) (E_2 : Exa Z h0 a1 "java/lang/String") (S_4 : Sta Z Z.heap "java/lang/String" "COMPACT_STRINGS" "Z" (.int p3)) (hc5 : ¬ (p3 = (0 : Int32))) (F_6 : Fld Z h0 a1 "java/lang/String" "coder" "B" (.int 0)) (F_8 : Fld Z h0 a1 "java/lang/String" "value" "[B" (.ref a7)) (V_14 : Arv Z h0 a7 k9 .byte (4 : Int32) [(.int p10), (.int p11), (.int p12), (.int p13)] (.int 0)) (hc15 : ¬ (p10 = (61 : Int32))) (hc16 : ¬ (p11 = (61 : Int32))) (hc17 : ¬ (p12 = (61 : Int32))) (hc18 : ¬ (p13 = (61 : Int32))) :
    MF l Z h0 (⟨"java/lang/String", "indexOf", "(I)I"⟩ : MethodName) jdk_42_method_79_code 2 (some .int) ws (⟨3, 0, 0, 46⟩ : Room) #[(.ref a1), (.int 61)] (Qrm33 Z a1 p3 a7 k9 p10 p11 p12 p13 h0 n0) := by
  refine MetFree.of_bodySF (plainFor_of_name pn_4) hisR ?_
  intro p e s m args below meth c s₁ Bd hml0 hP hK
  obtain ⟨rfl, hZ, hh⟩ := hP
  have hx := Bd.exec
  have hby := Bd.bytes
  have hml : c.maxLocals = 2 := hml0
  have hown : s.vm.findClass "java/lang/String" = some m.cls := findClass_of_methodNamed Bd.named
  have X0 : Stand p l e (⟨3, 0, 0, 46⟩ : Room) s m #[(.ref a1), (.int 61)] below meth c s₁ [] 0 0 := Stand.of_body Bd
  have e0 : s₁.heap = h0 := by rw [← hh, Bd.state]; rfl
  have N0 := Fr.nil n0
  have pre0 : ∀ t, Steps p.tables e below (s₁.setTop (mkF m 0 #[vr a1, vi 61] [])) t → Steps p.tables e below (s₁.setTop (entryFrame m #[(.ref a1), (.int 61)] 2)) t := fun t k => castTop (ef_33_RI m a1 (61 : Int32)) k
  obtain ⟨_, T19, L19, X19, hQ19, st19⟩ := cV X0 hx hZ hown (W hw 187 rfl) (W hw 188 rfl) (notFace_of_selects (args := #[]) (mvT hZ (W hw 190 rfl))) (W hw 190 rfl) (W hw 189 rfl) (W hw 191 rfl) (W hw 2 rfl) (by decide) (rm34 l Z a0 hw [] a1 p3 a7 k9 p10 p11 p12 p13 h0 n0 O0 E_2 S_4 hc5 F_6 F_8 V_14 hc15 hc16 hc17 hc18) e0 E_2 #[vr a1, vi 61] [] (by rw [hml]; rfl) (hb hby d33_3) pd_16 rfl (W := 0) (Nat.le_of_eq rfl) (by decide) (by decide) (by decide) (by decide)
  obtain ⟨rfl, Nq19, e19⟩ := hQ19
  have N19 := Fr.app N0 Nq19
  obtain ⟨fs, hr, hrun, hended, hW, hsame⟩ := X19.leave (v := some (.int (-1))) (fun h => by rw [Bd.returns] at h; cases h)
  refine ⟨_, _, pre0 _ ?_, hrun, hended, _, _, rfl, ?_, ⟨_, rfl⟩, hW, hsame.mono (by decide) (by decide)⟩
  · show Steps p.tables e below (s₁.setTop (mkF m 0 #[vr a1, vi 61] [])) _
    refine XS.aloadN X0.here hx rfl (hb hby d33_0) rfl rfl ?_
    refine XS.iloadN X0.here hx rfl (hb hby d33_1) rfl ?_
    refine XS.iconst X0.here hx rfl (hb hby d33_2) ?_
    refine st19 _ ?_
    exact retI X19 hx Bd.returns (hb hby d33_6) hr
  · show Qrm33 Z a1 p3 a7 k9 p10 p11 p12 p13 h0 n0 _ T19.heap _
    rw [e19]
    exact ⟨rfl, N19, rfl⟩
theorem pd_42 : parseMethodDescriptor "(I)I" = some ⟨[.int], some .int⟩ := by decide +kernel
theorem d20_101 : decode prog_1_method_2_code 101 = .ok (.istore_n 2, 1) := by decide +kernel
theorem d20_102 : decode prog_1_method_2_code 102 = .ok (.aload_n 0, 1) := by decide +kernel
theorem d20_103 : decode prog_1_method_2_code 103 = .ok (.iload_n 2, 1) := by decide +kernel
theorem d20_104 : decode prog_1_method_2_code 104 = .ok (.ifCond .ge 7, 3) := by decide +kernel
theorem d20_107 : decode prog_1_method_2_code 107 = .ok (.aload_n 1, 1) := by decide +kernel
theorem d20_108 : decode prog_1_method_2_code 108 = .ok (.goto 9, 3) := by decide +kernel
theorem d20_117 : decode prog_1_method_2_code 117 = .ok (.putfield 49, 3) := by decide +kernel
theorem d20_120 : decode prog_1_method_2_code 120 = .ok (.aload_n 0, 1) := by decide +kernel
theorem d20_121 : decode prog_1_method_2_code 121 = .ok (.iload_n 2, 1) := by decide +kernel
theorem d20_122 : decode prog_1_method_2_code 122 = .ok (.ifCond .ge 7, 3) := by decide +kernel
theorem d20_125 : decode prog_1_method_2_code 125 = .ok (.aconst_null, 1) := by decide +kernel
theorem d20_126 : decode prog_1_method_2_code 126 = .ok (.goto 10, 3) := by decide +kernel
theorem d20_136 : decode prog_1_method_2_code 136 = .ok (.putfield 56, 3) := by decide +kernel
theorem d20_139 : decode prog_1_method_2_code 139 = .ok (.goto 34, 3) := by decide +kernel
def Qrm20_4 (Z : State) (a1 : Addr) (a4 : Addr) (a12 : Addr) (k14 : ClassId) (a15 : Addr) (p21 : Int32) (a25 : Addr) (k27 : ClassId) (p28 : Int32) (p29 : Int32) (p30 : Int32) (p31 : Int32) (h0 : Heap) (n0 : Nat) (v : Option Value) (h : Heap) (L : List Loc) : Prop := v = some (.ref a15) ∧ Fr n0 L ∧ Keep h0 h [a1] ∧ Fld Z h a1 "com/example/runqueue/runqueue/Arguments" "next" "I" (.int 1) ∧ Fld Z h a1 "com/example/runqueue/runqueue/Arguments" "args" "Ljava/util/List;" (.ref a4) ∧ Exa Z h a1 "com/example/runqueue/runqueue/Arguments" ∧ Fld Z h a1 "com/example/runqueue/runqueue/Arguments" "option" "Ljava/lang/String;" (.ref a15) ∧ Fld Z h a1 "com/example/runqueue/runqueue/Arguments" "attached" "Ljava/lang/String;" .null
set_option maxRecDepth 65536 in
set_option maxHeartbeats 40000000 in
theorem rm20_4 (l : Launch) (Z : State) (a0 : Array Value) (hw : ∀ d ∈ tables_1, d.before a0 Z = true) (ws : List Jvm.Cond) (a1 : Addr) (a4 : Addr) (a12 : Addr) (k14 : ClassId) (a15 : Addr) (p21 : Int32) (a25 : Addr) (k27 : ClassId) (p28 : Int32) (p29 : Int32) (p30 : Int32) (p31 : Int32) (h0 : Heap) (n0 : Nat) (O0 : Old Z n0 h0) (F_2 : Fld Z h0 a1 "com/example/runqueue/runqueue/Arguments" "next" "I" (.int 0)) (F_5 : Fld Z h0 a1 "com/example/runqueue/runqueue/Arguments" "args" "Ljava/util/List;" (.ref a4)) (E_7 : Exa Z h0 a4 "java/util/ArrayList") (F_8 : Fld Z h0 a4 "java/util/ArrayList" "size" "I" (.int 1)) (F_13 : Fld Z h0 a4 "java/util/ArrayList" "elementData" "[Ljava/lang/Object;" (.ref a12)) (V_16 : Arv Z h0 a12 k14 (.object "java/lang/Object") (10 : Int32) [(.ref a15)] .null) (E_18 : Exa Z h0 a15 "java/lang/String") (g_a15 : n0 ≤ a15) (S_22 : Sta Z Z.heap "java/lang/String" "COMPACT_STRINGS" "Z" (.int p21)) (hc23 : ¬ (p21 = (0 : Int32))) (F_24 : Fld Z h0 a15 "java/lang/String" "coder" "B" (.int 0)) (F_26 : Fld Z h0 a15 "java/lang/String" "value" "[B" (.ref a25)) (V_32 : Arv Z h0 a25 k27 .byte (4 : Int32) [(.int p28), (.int p29), (.int p30), (.int p31)] (.int 0)) (hc39 : p28 = (45 : Int32)) (E_53 : Exa Z h0 a1 "com/example/runqueue/runqueue/Arguments") (g_a1 : n0 ≤ a1) (F_56 : Fld Z h0 a1 "com/example/runqueue/runqueue/Arguments" "option" "Ljava/lang/String;" .null) (F_57 : Fld Z h0 a1 "com/example/runqueue/runqueue/Arguments" "attached" "Ljava/lang/String;" .null) (hc59 : p29 = (45 : Int32)) (ne_a15_a1 : a15 ≠ a1) (ne_a25_a1 : a25 ≠ a1) (hc65 : ¬ (p28 = (61 : Int32))) (hc66 : ¬ (p29 = (61 : Int32))) (hc67 : ¬ (p30 = (61 : Int32))) (hc68 : ¬ (p31 = (61 : Int32))) :
    MetFree l (⟨"com/example/runqueue/runqueue/Arguments", "nextOption", "()Ljava/lang/String;"⟩ : MethodName) (head1 (Jvm.Cond.code (⟨"com/example/runqueue/runqueue/Arguments", "nextOption", "()Ljava/lang/String;"⟩ : MethodName) prog_1_method_2_code 3 (some (.object "java/lang/String")) :: ws) (⟨4, 8, 40, 59⟩ : Room)) (fun a U => a = #[(.ref a1)] ∧ Z.Warmed39 U.vm ∧ U.heap = h0 ∧ own_CH Z own_EL n0 U.vm h0) (fun _ _ _ _ _ => True) (fun _ U o U' => ∃ v L, o = .returned v ∧ Qrm20_4 Z a1 a4 a12 k14 a15 p21 a25 k27 p28 p29 p30 p31 h0 n0 v U'.heap L ∧ ReturnedEndW U o U' L (⟨4, 8, 40, 59⟩ : Room).cells (⟨4, 8, 40, 59⟩ : Room).slots) := by
  refine MetFree.of_bodySF (plainFor_of_name pn_21) hisR ?_
  intro p e s m args below meth c s₁ Bd hml0 hP hK
  obtain ⟨rfl, hZ, hh, hCH⟩ := hP
  have hx := Bd.exec
  have hby := Bd.bytes
  have hml : c.maxLocals = 3 := hml0
  have hown : s.vm.findClass "com/example/runqueue/runqueue/Arguments" = some m.cls := findClass_of_methodNamed Bd.named
  have X0 : Stand p l e (⟨4, 8, 40, 59⟩ : Room) s m #[(.ref a1)] below meth c s₁ [] 0 0 := Stand.of_body Bd
  have e0 : s₁.heap = h0 := by rw [← hh, Bd.state]; rfl
  have N0 := Fr.nil n0
  have pre0 : ∀ t, Steps p.tables e below (s₁.setTop (mkF m 0 #[vr a1, .unset, .unset] [])) t → Steps p.tables e below (s₁.setTop (entryFrame m #[(.ref a1)] 3)) t := fun t k => castTop (ef_20_R m a1) k
  have CS0 : own_CS Z own_EL n0 h0.size s.vm h0 := own_CS.start hCH
  have hS0 : s.Since s.vm 0 := (State.WarmedH.refl s).since 0
  obtain ⟨T3, X3, e3, st3⟩ := getF X0 hx hZ hown (host := "") (Or.inl (W hw 113 rfl)) Via.refl e0 F_2 (g := (mkF m 1 #[vr a1, .unset, .unset] [(.ref a1)])) rfl rfl (hb hby d20_1)
  obtain ⟨T6, X6, e6, st6⟩ := getF X3 hx hZ hown (host := "") (Or.inl (W hw 106 rfl)) Via.refl e3 F_5 (g := (mkF m 5 #[vr a1, .unset, .unset] [(.ref a1), (.int 0)])) rfl rfl (hb hby d20_5)
  obtain ⟨_, T9, L9, X9, hQ9, st9⟩ := cF X6 hx hZ hown (W hw 115 rfl) (W hw 116 rfl) (mvT hZ (W hw 117 rfl)) (W hw 118 rfl) (W hw 119 rfl) (W hw 120 rfl) (W hw 121 rfl) (W hw 122 rfl) (W hw 123 rfl) (W hw 46 rfl) (by decide) (rm21 l Z a0 hw [] a4 h0 n0 O0 F_8) e6 E_7 #[vr a1, .unset, .unset] [(.int 0)] (by rw [hml]; rfl) (hb hby d20_8) pd_23 rfl (W := 1) (Nat.le_of_eq rfl) (by decide) (by decide) (by decide) (by decide)
  obtain ⟨rfl, Nq9, e9⟩ := hQ9
  have N9 := Fr.app N0 Nq9
  obtain ⟨T10, X10, e10, st10⟩ := getF X9 hx hZ hown (host := "") (Or.inl (W hw 106 rfl)) Via.refl e9 F_5 (g := (mkF m 19 #[vr a1, .unset, .unset] [(.ref a1)])) rfl rfl (hb hby d20_19)
  obtain ⟨T11, X11, e11, st11⟩ := getF X10 hx hZ hown (host := "") (Or.inl (W hw 113 rfl)) Via.refl e10 F_2 (g := (mkF m 23 #[vr a1, .unset, .unset] [(.ref a1), (.ref a4)])) rfl rfl (hb hby d20_23)
  obtain ⟨_, T17, L17, X17, hQ17, st17⟩ := cF X11 hx hZ hown (W hw 124 rfl) (W hw 125 rfl) (mvT hZ (W hw 126 rfl)) (W hw 127 rfl) (W hw 128 rfl) (W hw 129 rfl) (W hw 130 rfl) (W hw 122 rfl) (W hw 131 rfl) (W hw 46 rfl) (by decide) (rm22 l Z a0 hw [] a4 a12 k14 a15 h0 n0 O0 F_8 E_7 F_13 V_16) e11 E_7 #[vr a1, .unset, .unset] [] (by rw [hml]; rfl) (hb hby d20_26) pd_27 rfl (W := 0) (Nat.le_of_eq rfl) (by decide) (by decide) (by decide) (by decide)
  obtain ⟨rfl, Nq17, e17⟩ := hQ17
  have N17 := Fr.app N9 Nq17
  obtain ⟨T19, X19, e19, st19⟩ := castY X17 hx hZ hown (W hw 145 rfl) e17 (Ins.self E_18) (g := (mkF m 31 #[vr a1, .unset, .unset] [(.ref a15)])) rfl rfl (hb hby d20_31)
  obtain ⟨b20, T20, h20, k20, bb20, kk20, X20, e20, E20, hS20, hk20, hZ20, hown20, La20, Lc20, Lv20, Lb20, -, -, hC20, -, hne20, st20⟩ := ldcCH (s := s) (vm0 := s.vm) X19 hx hZ hown (W hw 146 rfl) (own_wS hw) e19 hS0 (Nat.zero_le _) (own_EW hw) (List.mem_of_getElem? (i := 0) rfl) CS0.1 (vs := [(.int 45), (.int 45)]) (z := (2 : Int32)) own_lt0 (by decide) (by decide) (g := (mkF m 36 #[vr a1, vr a15, .unset] [(.ref a15)])) rfl (hb hby d20_36) (n := 8) (by decide) (by decide) (by decide) (by decide)
  have CS20 := CS0.ldc hC20 (Keep.refl h0 [a1]).1
  have K20 := (Keep.refl h0 [a1]).ext E20
  have O20 := O0.ext E20
  have f33 := (F_24.ext E20)
  have f34 := (F_26.ext E20)
  have f35 := (V_32.ext E20)
  have f37 := (E_18.ext E20)
  obtain ⟨_, T36, L36, X36, hQ36, st36⟩ := cV X20 hx hZ20 hown20 (W hw 149 rfl) (W hw 150 rfl) (notFace_of_selects (args := #[]) (mvT hZ20 (W hw 152 rfl))) (W hw 152 rfl) (W hw 151 rfl) (W hw 153 rfl) (W hw 2 rfl) (by decide) (rm26_4 l Z a0 hw [] a15 b20 p21 a25 bb20 k27 p28 p29 p30 p31 kk20 h20 n0 O20 (hne20 a15 (CS20.2 a15 g_a15 E_18.lt)).1 La20 S_22 hc23 f33 Lc20 f34 Lv20 f35 Lb20) e20 f37 #[vr a1, vr a15, .unset] [] (by rw [hml]; rfl) (hb hby d20_38) pd_20 rfl (W := 0) (Nat.le_of_eq rfl) (by decide) (by decide) (by decide) (by decide)
  obtain ⟨rfl, Nq36, e36⟩ := hQ36
  have N36 := Fr.app N17 Nq36
  obtain ⟨b38, T38, h38, k38, bb38, kk38, X38, e38, E38, hS38, hk38, hZ38, hown38, La38, Lc38, Lv38, Lb38, -, -, hC38, -, hne38, st38⟩ := ldcCH (s := s) (vm0 := T20.vm) X36 hx hZ20 hown20 (W hw 157 rfl) (own_wS hw) e36 hS20 hk20 (own_EW hw) (List.mem_of_getElem? (i := 1) rfl) CS20.1 (vs := [(.int 45)]) (z := (1 : Int32)) own_lt1 (by decide) (by decide) (g := (mkF m 57 #[vr a1, vr a15, .unset] [(.ref a15)])) rfl (hb hby d20_57) (n := 4) (by decide) (by decide) (by decide) (by decide)
  have CS38 := CS20.ldc hC38 K20.1
  have K38 := K20.ext E38
  have O38 := O20.ext E38
  have f40 := (f37.ext E38)
  have f41 := (f34.ext E38)
  have f42 := (f35.ext E38)
  have f43 := (f33.ext E38)
  obtain ⟨_, T44, L44, X44, hQ44, st44⟩ := cV X38 hx hZ38 hown38 (W hw 158 rfl) (W hw 159 rfl) (notFace_of_selects (args := #[]) (mvT hZ38 (W hw 161 rfl))) (W hw 161 rfl) (W hw 160 rfl) (W hw 162 rfl) (W hw 2 rfl) (by decide) (rm28_2 l Z a0 hw [] a15 b38 a25 k27 p28 p29 p30 p31 p21 bb38 kk38 h38 n0 O38 f40 f41 f42 S_22 hc23 f43 La38 Lv38 Lb38 Lc38 hc39) e38 f40 #[vr a1, vr a15, .unset] [] (by rw [hml]; rfl) (hb hby d20_59) pd_36 rfl (W := 0) (Nat.le_of_eq rfl) (by decide) (by decide) (by decide) (by decide)
  obtain ⟨rfl, Nq44, e44⟩ := hQ44
  have N44 := Fr.app N36 Nq44
  obtain ⟨b45, T45, h45, k45, bb45, kk45, X45, e45, E45, hS45, hk45, hZ45, hown45, La45, Lc45, Lv45, Lb45, -, -, hC45, -, hne45, st45⟩ := ldcCH (s := s) (vm0 := T38.vm) X44 hx hZ38 hown38 (W hw 157 rfl) (own_wS hw) e44 hS38 hk38 (own_EW hw) (List.mem_of_getElem? (i := 1) rfl) CS38.1 (vs := [(.int 45)]) (z := (1 : Int32)) own_lt1 (by decide) (by decide) (g := (mkF m 66 #[vr a1, vr a15, .unset] [(.ref a15)])) rfl (hb hby d20_66) (n := 4) (by decide) (by decide) (by decide) (by decide)
  have CS45 := CS38.ldc hC45 K38.1
  have K45 := K38.ext E45
  have O45 := O38.ext E45
  have f46 := (f43.ext E45)
  have f47 := (f41.ext E45)
  have f48 := (f42.ext E45)
  have f50 := (f40.ext E45)
  obtain ⟨_, T49, L49, X49, hQ49, st49⟩ := cV X45 hx hZ45 hown45 (W hw 149 rfl) (W hw 150 rfl) (notFace_of_selects (args := #[]) (mvT hZ45 (W hw 152 rfl))) (W hw 152 rfl) (W hw 151 rfl) (W hw 153 rfl) (W hw 2 rfl) (by decide) (rm26_5 l Z a0 hw [] a15 b45 p21 a25 bb45 k27 p28 p29 p30 p31 kk45 h45 n0 O45 (hne45 a15 (CS45.2 a15 g_a15 E_18.lt)).1 La45 S_22 hc23 f46 Lc45 f47 Lv45 f48 Lb45) e45 f50 #[vr a1, vr a15, .unset] [] (by rw [hml]; rfl) (hb hby d20_68) pd_20 rfl (W := 0) (Nat.le_of_eq rfl) (by decide) (by decide) (by decide) (by decide)
  obtain ⟨rfl, Nq49, e49⟩ := hQ49
  have N49 := Fr.app N44 Nq49
  have f51 := (((F_2.ext E20).ext E38).ext E45)
  obtain ⟨T52, X52, e52, st52⟩ := getF X49 hx hZ45 hown45 (host := "") (Or.inl (W hw 113 rfl)) Via.refl e49 f51 (g := (mkF m 78 #[vr a1, vr a15, .unset] [(.ref a1), (.ref a1)])) rfl rfl (hb hby d20_78)
  have f54 := (((E_53.ext E20).ext E38).ext E45)
  obtain ⟨T55, h55, X55, e55, W55, st55⟩ := putF X52 hx hZ45 hown45 (host := "") (Or.inl (W hw 113 rfl)) Via.refl e52 f51 f54 (Or.inl (W hw 114 rfl)) (W hw 100 rfl) (ty := .int) (by decide) rfl rfl (g := (mkF m 83 #[vr a1, vr a15, .unset] [(.int 1), (.ref a1)])) rfl rfl (hb hby d20_83)
  have K55 := K45.wr W55 (Or.inl (List.mem_of_getElem? (i := 0) rfl))
  have O55 := O45.wr W55 g_a1
  have N55 := Fr.snoc X55 N49 g_a1
  have CS55 := CS45.wr W55 g_a1 F_2.lt
  have Fw55 := f51.same W55
  obtain ⟨b58, T58, h58, k58, bb58, kk58, X58, e58, E58, hS58, hk58, hZ58, hown58, La58, Lc58, Lv58, Lb58, -, -, hC58, -, hne58, st58⟩ := ldcCH (s := s) (vm0 := T45.vm) X55 hx hZ45 hown45 (W hw 146 rfl) (own_wS hw) e55 hS45 (Nat.le_trans hk45 (Keep.of_wr W55).1) (own_EW hw) (List.mem_of_getElem? (i := 0) rfl) CS55.1 (vs := [(.int 45), (.int 45)]) (z := (2 : Int32)) own_lt0 (by decide) (by decide) (g := (mkF m 87 #[vr a1, vr a15, .unset] [(.ref a15)])) rfl (hb hby d20_87) (n := 8) (by decide) (by decide) (by decide) (by decide)
  have K58 := K55.ext E58
  have O58 := O55.ext E58
  have f60 := ((f50.wr W55).ext E58)
  have f61 := ((f47.other W55 (Or.inl ne_a15_a1)).ext E58)
  have f62 := ((f48.other W55 ne_a25_a1).ext E58)
  have f63 := ((f46.other W55 (Or.inl ne_a15_a1)).ext E58)
  obtain ⟨_, T64, L64, X64, hQ64, st64⟩ := cV X58 hx hZ58 hown58 (W hw 158 rfl) (W hw 159 rfl) (notFace_of_selects (args := #[]) (mvT hZ58 (W hw 161 rfl))) (W hw 161 rfl) (W hw 160 rfl) (W hw 162 rfl) (W hw 2 rfl) (by decide) (rm28_3 l Z a0 hw [] a15 b58 a25 k27 p28 p29 p30 p31 p21 bb58 kk58 h58 n0 O58 f60 f61 f62 S_22 hc23 f63 La58 Lv58 Lb58 Lc58 hc39 hc59) e58 f60 #[vr a1, vr a15, .unset] [] (by rw [hml]; rfl) (hb hby d20_89) pd_36 rfl (W := 0) (Nat.le_of_eq rfl) (by decide) (by decide) (by decide) (by decide)
  obtain ⟨rfl, Nq64, e64⟩ := hQ64
  have N64 := Fr.app N55 Nq64
  obtain ⟨_, T69, L69, X69, hQ69, st69⟩ := cV X64 hx hZ58 hown58 (W hw 182 rfl) (W hw 183 rfl) (notFace_of_selects (args := #[]) (mvT hZ58 (W hw 185 rfl))) (W hw 185 rfl) (W hw 184 rfl) (W hw 186 rfl) (W hw 2 rfl) (by decide) (rm33 l Z a0 hw [] a15 p21 a25 k27 p28 p29 p30 p31 h58 n0 O58 f60 S_22 hc23 f63 f61 f62 hc65 hc66 hc67 hc68) e64 f60 #[vr a1, vr a15, .unset] [] (by rw [hml]; rfl) (hb hby d20_98) pd_42 rfl (W := 0) (Nat.le_of_eq rfl) (by decide) (by decide) (by decide) (by decide)
  obtain ⟨rfl, Nq69, e69⟩ := hQ69
  have N69 := Fr.app N64 Nq69
  have f70 := (((((F_56.ext E20).ext E38).ext E45).other W55 (Or.inr (slot_ne (Or.inl (W hw 211 rfl)) (Or.inl (W hw 114 rfl)) (by decide) (t := (.object "java/lang/String")) (t' := .int) (by decide) (by decide)))).ext E58)
  have f71 := ((f54.wr W55).ext E58)
  obtain ⟨T72, h72, X72, e72, W72, st72⟩ := putF X69 hx hZ58 hown58 (host := "") (Or.inl (W hw 210 rfl)) Via.refl e69 f70 f71 (Or.inl (W hw 211 rfl)) (W hw 100 rfl) (ty := (.object "java/lang/String")) (by decide) rfl rfl (g := (mkF m 117 #[vr a1, vr a15, vi (-1)] [(.ref a15), (.ref a1)])) rfl rfl (hb hby d20_117)
  have K72 := K58.wr W72 (Or.inl (List.mem_of_getElem? (i := 0) rfl))
  have N72 := Fr.snoc X72 N69 g_a1
  have Fw72 := f70.same W72
  have f73 := ((((((F_57.ext E20).ext E38).ext E45).other W55 (Or.inr (slot_ne (Or.inl (W hw 213 rfl)) (Or.inl (W hw 114 rfl)) (by decide) (t := (.object "java/lang/String")) (t' := .int) (by decide) (by decide)))).ext E58).other W72 (Or.inr (slot_ne (Or.inl (W hw 213 rfl)) (Or.inl (W hw 211 rfl)) (by decide) (t := (.object "java/lang/String")) (t' := (.object "java/lang/String")) (by decide) (by decide))))
  have f74 := (f71.wr W72)
  obtain ⟨T75, h75, X75, e75, W75, st75⟩ := putF X72 hx hZ58 hown58 (host := "") (Or.inl (W hw 212 rfl)) Via.refl e72 f73 f74 (Or.inl (W hw 213 rfl)) (W hw 100 rfl) (ty := (.object "java/lang/String")) (by decide) rfl rfl (g := (mkF m 136 #[vr a1, vr a15, vi (-1)] [.null, (.ref a1)])) rfl rfl (hb hby d20_136)
  have K75 := K72.wr W75 (Or.inl (List.mem_of_getElem? (i := 0) rfl))
  have N75 := Fr.snoc X75 N72 g_a1
  have Fw75 := f73.same W75
  have f76 := (Fw72.other W75 (Or.inr (slot_ne (Or.inl (W hw 211 rfl)) (Or.inl (W hw 213 rfl)) (by decide) (t := (.object "java/lang/String")) (t' := (.object "java/lang/String")) (by decide) (by decide))))
  obtain ⟨T77, X77, e77, st77⟩ := getF X75 hx hZ58 hown58 (host := "") (Or.inl (W hw 210 rfl)) Via.refl e75 f76 (g := (mkF m 174 #[vr a1, vr a15, vi (-1)] [(.ref a1)])) rfl rfl (hb hby d20_174)
  have f78 := (((Fw55.ext E58).other W72 (Or.inr (slot_ne (Or.inl (W hw 114 rfl)) (Or.inl (W hw 211 rfl)) (by decide) (t := .int) (t' := (.object "java/lang/String")) (by decide) (by decide)))).other W75 (Or.inr (slot_ne (Or.inl (W hw 114 rfl)) (Or.inl (W hw 213 rfl)) (by decide) (t := .int) (t' := (.object "java/lang/String")) (by decide) (by decide))))
  have f79 := (((((((F_5.ext E20).ext E38).ext E45).other W55 (Or.inr (slot_ne (Or.inr (W hw 107 rfl)) (Or.inl (W hw 114 rfl)) (by decide) (t := (.object "java/util/List")) (t' := .int) (by decide) (by decide)))).ext E58).other W72 (Or.inr (slot_ne (Or.inr (W hw 107 rfl)) (Or.inl (W hw 211 rfl)) (by decide) (t := (.object "java/util/List")) (t' := (.object "java/lang/String")) (by decide) (by decide)))).other W75 (Or.inr (slot_ne (Or.inr (W hw 107 rfl)) (Or.inl (W hw 213 rfl)) (by decide) (t := (.object "java/util/List")) (t' := (.object "java/lang/String")) (by decide) (by decide))))
  have f80 := (f74.wr W75)
  obtain ⟨fs, hr, hrun, hended, hREW⟩ := X77.leaveW (s := s) hS58 (by rw [e77]; exact (Nat.le_trans (Nat.le_trans hk58 (Keep.of_wr W72).1) (Keep.of_wr W75).1)) (v := some (.ref a15)) (fun h => by rw [Bd.returns] at h; cases h)
  refine ⟨_, _, pre0 _ ?_, hrun, hended, _, _, rfl, ?_, hREW.1, hREW.2.1, hREW.2.2.1, hREW.2.2.2.mono (by decide) (by decide)⟩
  · show Steps p.tables e below (s₁.setTop (mkF m 0 #[vr a1, .unset, .unset] [])) _
    refine XS.aloadN X0.here hx rfl (hb hby d20_0) rfl rfl ?_
    refine st3 _ ?_
    refine XS.aloadN X3.here hx rfl (hb hby d20_4) rfl rfl ?_
    refine st6 _ ?_
    refine st9 _ ?_
    refine XS.icmpYes X9.here hx rfl (pc0 := 13) (pc' := 18) rfl (hb hby d20_13) rfl (feq ((by decide) : ¬ ((0 : Int32) = (1 : Int32)))).2 (by decide) (by decide) ?_
    refine XS.aloadN X9.here hx rfl (hb hby d20_18) rfl rfl ?_
    refine st10 _ ?_
    refine XS.aloadN X10.here hx rfl (hb hby d20_22) rfl rfl ?_
    refine st11 _ ?_
    show Steps p.tables e below (T11.setTop (mkF m 26 #[vr a1, .unset, .unset] [(.int 0), (.ref a4)])) _
    refine st17 _ ?_
    refine st19 _ ?_
    refine XS.astoreN X19.here hx rfl (hb hby d20_34) rfl rfl (l' := #[vr a1, vr a15, .unset]) rfl ?_
    refine XS.aloadN X19.here hx rfl (hb hby d20_35) rfl rfl ?_
    refine st20 _ ?_
    refine st36 _ ?_
    refine XS.ifYes X36.here hx rfl (pc0 := 41) (pc' := 56) rfl (hb hby d20_41) rfl ((if0 _ _).trans (teq ((by decide) : (0 : Int32) = (0 : Int32))).1) (by decide) (by decide) ?_
    refine XS.aloadN X36.here hx rfl (hb hby d20_56) rfl rfl ?_
    refine st38 _ ?_
    refine st44 _ ?_
    show Steps p.tables e below (T44.setTop (mkF m 62 #[vr a1, vr a15, .unset] [(.int 1)])) _
    refine XS.ifNo X44.here hx rfl (hb hby d20_62) rfl ((if0 _ _).trans (feq ((by decide) : ¬ ((1 : Int32) = (0 : Int32)))).1) ?_
    refine XS.aloadN X44.here hx rfl (hb hby d20_65) rfl rfl ?_
    refine st45 _ ?_
    refine st49 _ ?_
    refine XS.ifYes X49.here hx rfl (pc0 := 71) (pc' := 76) rfl (hb hby d20_71) rfl ((if0 _ _).trans (teq ((by decide) : (0 : Int32) = (0 : Int32))).1) (by decide) (by decide) ?_
    refine XS.aloadN X49.here hx rfl (hb hby d20_76) rfl rfl ?_
    refine XS.dup X49.here hx rfl (hb hby d20_77) rfl rfl ?_
    refine st52 _ ?_
    refine XS.iconst X52.here hx rfl (hb hby d20_81) ?_
    refine XS.iadd X52.here hx rfl (hb hby d20_82) rfl ?_
    show Steps p.tables e below (T52.setTop (mkF m 83 #[vr a1, vr a15, .unset] [(.int ((0 : Int32) + (1 : Int32))), (.ref a1)])) _
    rw [show ((0 : Int32) + (1 : Int32)) = (1 : Int32) from by decide]
    refine st55 _ ?_
    refine XS.aloadN X55.here hx rfl (hb hby d20_86) rfl rfl ?_
    refine st58 _ ?_
    refine st64 _ ?_
    refine XS.ifNo X64.here hx rfl (hb hby d20_92) rfl ((if0 _ _).trans (feq ((by decide) : ¬ ((1 : Int32) = (0 : Int32)))).1) ?_
    refine XS.aloadN X64.here hx rfl (hb hby d20_95) rfl rfl ?_
    refine XS.bipush X64.here hx rfl (hb hby d20_96) ?_
    refine st69 _ ?_
    refine XS.istoreN X69.here hx rfl (hb hby d20_101) rfl (l' := #[vr a1, vr a15, vi (-1)]) rfl ?_
    show Steps p.tables e below (T69.setTop (mkF m 102 #[vr a1, vr a15, vi (-1)] [])) _
    refine XS.aloadN X69.here hx rfl (hb hby d20_102) rfl rfl ?_
    refine XS.iloadN X69.here hx rfl (hb hby d20_103) rfl ?_
    refine XS.ifNo X69.here hx rfl (hb hby d20_104) rfl ((if0 _ _).trans (tlt ((by decide) : (-1 : Int32) < (0 : Int32))).2.1) ?_
    refine XS.aloadN X69.here hx rfl (hb hby d20_107) rfl rfl ?_
    refine XS.goto X69.here hx rfl (pc0 := 108) (pc' := 117) rfl (hb hby d20_108) (by decide) (by decide) ?_
    refine st72 _ ?_
    refine XS.aloadN X72.here hx rfl (hb hby d20_120) rfl rfl ?_
    refine XS.iloadN X72.here hx rfl (hb hby d20_121) rfl ?_
    refine XS.ifNo X72.here hx rfl (hb hby d20_122) rfl ((if0 _ _).trans (tlt ((by decide) : (-1 : Int32) < (0 : Int32))).2.1) ?_
    refine XS.aconstNull X72.here hx rfl (hb hby d20_125) ?_
    show Steps p.tables e below (T72.setTop (mkF m 126 #[vr a1, vr a15, vi (-1)] [.null, (.ref a1)])) _
    refine XS.goto X72.here hx rfl (pc0 := 126) (pc' := 136) rfl (hb hby d20_126) (by decide) (by decide) ?_
    refine st75 _ ?_
    refine XS.goto X75.here hx rfl (pc0 := 139) (pc' := 173) rfl (hb hby d20_139) (by decide) (by decide) ?_
    refine XS.aloadN X75.here hx rfl (hb hby d20_173) rfl rfl ?_
    refine st77 _ ?_
    jvm_step X77.here [X77.here.top, hx, (hb hby d20_177), X77.method', Bd.returns, Value.isRef, FieldType.isReference]
    first | (intro acts; rw [hr _ acts rfl rfl rfl]) | rw [hr _ _ rfl rfl rfl]
    exact Steps.refl _
  · show Qrm20_4 Z a1 a4 a12 k14 a15 p21 a25 k27 p28 p29 p30 p31 h0 n0 _ T77.heap _
    rw [e77]
    exact ⟨rfl, N75, K75, f78, f79, f80, f76, Fw75⟩
def Qrm20_5 (Z : State) (a1 : Addr) (a4 : Addr) (a12 : Addr) (k14 : ClassId) (a15 : Addr) (a16 : Addr) (p22 : Int32) (a27 : Addr) (k30 : ClassId) (p31 : Int32) (p32 : Int32) (p33 : Int32) (p34 : Int32) (h0 : Heap) (n0 : Nat) (v : Option Value) (h : Heap) (L : List Loc) : Prop := v = some (.ref a15) ∧ Fr n0 L ∧ Keep h0 h [a1] ∧ Fld Z h a1 "com/example/runqueue/runqueue/Arguments" "next" "I" (.int 1) ∧ Fld Z h a1 "com/example/runqueue/runqueue/Arguments" "args" "Ljava/util/List;" (.ref a4) ∧ Exa Z h a1 "com/example/runqueue/runqueue/Arguments" ∧ Fld Z h a1 "com/example/runqueue/runqueue/Arguments" "option" "Ljava/lang/String;" (.ref a15) ∧ Fld Z h a1 "com/example/runqueue/runqueue/Arguments" "attached" "Ljava/lang/String;" .null
set_option maxRecDepth 65536 in
set_option maxHeartbeats 40000000 in
theorem rm20_5 (l : Launch) (Z : State) (a0 : Array Value) (hw : ∀ d ∈ tables_1, d.before a0 Z = true) (ws : List Jvm.Cond) (a1 : Addr) (a4 : Addr) (a12 : Addr) (k14 : ClassId) (a15 : Addr) (a16 : Addr) (p22 : Int32) (a27 : Addr) (k30 : ClassId) (p31 : Int32) (p32 : Int32) (p33 : Int32) (p34 : Int32) (h0 : Heap) (n0 : Nat) (O0 : Old Z n0 h0) (F_2 : Fld Z h0 a1 "com/example/runqueue/runqueue/Arguments" "next" "I" (.int 0)) (F_5 : Fld Z h0 a1 "com/example/runqueue/runqueue/Arguments" "args" "Ljava/util/List;" (.ref a4)) (E_7 : Exa Z h0 a4 "java/util/ArrayList") (F_8 : Fld Z h0 a4 "java/util/ArrayList" "size" "I" (.int 2)) (F_13 : Fld Z h0 a4 "java/util/ArrayList" "elementData" "[Ljava/lang/Object;" (.ref a12)) (V_17 : Arv Z h0 a12 k14 (.object "java/lang/Object") (10 : Int32) [(.ref a15), (.ref a16)] .null) (E_19 : Exa Z h0 a15 "java/lang/String") (g_a15 : n0 ≤ a15) (S_23 : Sta Z Z.heap "java/lang/String" "COMPACT_STRINGS" "Z" (.int p22)) (hc24 : ¬ (p22 = (0 : Int32))) (F_25 : Fld Z h0 a15 "java/lang/String" "coder" "B" (.int 0)) (F_28 : Fld Z h0 a15 "java/lang/String" "value" "[B" (.ref a27)) (V_35 : Arv Z h0 a27 k30 .byte (4 : Int32) [(.int p31), (.int p32), (.int p33), (.int p34)] (.int 0)) (hc44 : p31 = (45 : Int32)) (E_54 : Exa Z h0 a1 "com/example/runqueue/runqueue/Arguments") (g_a1 : n0 ≤ a1) (F_57 : Fld Z h0 a1 "com/example/runqueue/runqueue/Arguments" "option" "Ljava/lang/String;" .null) (F_58 : Fld Z h0 a1 "com/example/runqueue/runqueue/Arguments" "attached" "Ljava/lang/String;" .null) (ne_a15_a1 : a15 ≠ a1) (ne_a27_a1 : a27 ≠ a1) (hc64 : p32 = (45 : Int32)) (hc66 : ¬ (p31 = (61 : Int32))) (hc67 : ¬ (p32 = (61 : Int32))) (hc68 : ¬ (p33 = (61 : Int32))) (hc69 : ¬ (p34 = (61 : Int32))) :
    MetFree l (⟨"com/example/runqueue/runqueue/Arguments", "nextOption", "()Ljava/lang/String;"⟩ : MethodName) (head1 (Jvm.Cond.code (⟨"com/example/runqueue/runqueue/Arguments", "nextOption", "()Ljava/lang/String;"⟩ : MethodName) prog_1_method_2_code 3 (some (.object "java/lang/String")) :: ws) (⟨4, 8, 40, 59⟩ : Room)) (fun a U => a = #[(.ref a1)] ∧ Z.Warmed39 U.vm ∧ U.heap = h0 ∧ own_CH Z own_EL n0 U.vm h0) (fun _ _ _ _ _ => True) (fun _ U o U' => ∃ v L, o = .returned v ∧ Qrm20_5 Z a1 a4 a12 k14 a15 a16 p22 a27 k30 p31 p32 p33 p34 h0 n0 v U'.heap L ∧ ReturnedEndW U o U' L (⟨4, 8, 40, 59⟩ : Room).cells (⟨4, 8, 40, 59⟩ : Room).slots) := by
  refine MetFree.of_bodySF (plainFor_of_name pn_21) hisR ?_
  intro p e s m args below meth c s₁ Bd hml0 hP hK
  obtain ⟨rfl, hZ, hh, hCH⟩ := hP
  have hx := Bd.exec
  have hby := Bd.bytes
  have hml : c.maxLocals = 3 := hml0
  have hown : s.vm.findClass "com/example/runqueue/runqueue/Arguments" = some m.cls := findClass_of_methodNamed Bd.named
  have X0 : Stand p l e (⟨4, 8, 40, 59⟩ : Room) s m #[(.ref a1)] below meth c s₁ [] 0 0 := Stand.of_body Bd
  have e0 : s₁.heap = h0 := by rw [← hh, Bd.state]; rfl
  have N0 := Fr.nil n0
  have pre0 : ∀ t, Steps p.tables e below (s₁.setTop (mkF m 0 #[vr a1, .unset, .unset] [])) t → Steps p.tables e below (s₁.setTop (entryFrame m #[(.ref a1)] 3)) t := fun t k => castTop (ef_20_R m a1) k
  have CS0 : own_CS Z own_EL n0 h0.size s.vm h0 := own_CS.start hCH
  have hS0 : s.Since s.vm 0 := (State.WarmedH.refl s).since 0
  obtain ⟨T3, X3, e3, st3⟩ := getF X0 hx hZ hown (host := "") (Or.inl (W hw 113 rfl)) Via.refl e0 F_2 (g := (mkF m 1 #[vr a1, .unset, .unset] [(.ref a1)])) rfl rfl (hb hby d20_1)
  obtain ⟨T6, X6, e6, st6⟩ := getF X3 hx hZ hown (host := "") (Or.inl (W hw 106 rfl)) Via.refl e3 F_5 (g := (mkF m 5 #[vr a1, .unset, .unset] [(.ref a1), (.int 0)])) rfl rfl (hb hby d20_5)
  obtain ⟨_, T9, L9, X9, hQ9, st9⟩ := cF X6 hx hZ hown (W hw 115 rfl) (W hw 116 rfl) (mvT hZ (W hw 117 rfl)) (W hw 118 rfl) (W hw 119 rfl) (W hw 120 rfl) (W hw 121 rfl) (W hw 122 rfl) (W hw 123 rfl) (W hw 46 rfl) (by decide) (rm21_1 l Z a0 hw [] a4 h0 n0 O0 F_8) e6 E_7 #[vr a1, .unset, .unset] [(.int 0)] (by rw [hml]; rfl) (hb hby d20_8) pd_23 rfl (W := 1) (Nat.le_of_eq rfl) (by decide) (by decide) (by decide) (by decide)
  obtain ⟨rfl, Nq9, e9⟩ := hQ9
  have N9 := Fr.app N0 Nq9
  obtain ⟨T10, X10, e10, st10⟩ := getF X9 hx hZ hown (host := "") (Or.inl (W hw 106 rfl)) Via.refl e9 F_5 (g := (mkF m 19 #[vr a1, .unset, .unset] [(.ref a1)])) rfl rfl (hb hby d20_19)
  obtain ⟨T11, X11, e11, st11⟩ := getF X10 hx hZ hown (host := "") (Or.inl (W hw 113 rfl)) Via.refl e10 F_2 (g := (mkF m 23 #[vr a1, .unset, .unset] [(.ref a1), (.ref a4)])) rfl rfl (hb hby d20_23)
  obtain ⟨_, T18, L18, X18, hQ18, st18⟩ := cF X11 hx hZ hown (W hw 124 rfl) (W hw 125 rfl) (mvT hZ (W hw 126 rfl)) (W hw 127 rfl) (W hw 128 rfl) (W hw 129 rfl) (W hw 130 rfl) (W hw 122 rfl) (W hw 131 rfl) (W hw 46 rfl) (by decide) (rm22_1 l Z a0 hw [] a4 a12 k14 a15 a16 h0 n0 O0 F_8 E_7 F_13 V_17) e11 E_7 #[vr a1, .unset, .unset] [] (by rw [hml]; rfl) (hb hby d20_26) pd_27 rfl (W := 0) (Nat.le_of_eq rfl) (by decide) (by decide) (by decide) (by decide)
  obtain ⟨rfl, Nq18, e18⟩ := hQ18
  have N18 := Fr.app N9 Nq18
  obtain ⟨T20, X20, e20, st20⟩ := castY X18 hx hZ hown (W hw 145 rfl) e18 (Ins.self E_19) (g := (mkF m 31 #[vr a1, .unset, .unset] [(.ref a15)])) rfl rfl (hb hby d20_31)
  obtain ⟨b21, T21, h21, k21, bb21, kk21, X21, e21, E21, hS21, hk21, hZ21, hown21, La21, Lc21, Lv21, Lb21, -, -, hC21, -, hne21, st21⟩ := ldcCH (s := s) (vm0 := s.vm) X20 hx hZ hown (W hw 146 rfl) (own_wS hw) e20 hS0 (Nat.zero_le _) (own_EW hw) (List.mem_of_getElem? (i := 0) rfl) CS0.1 (vs := [(.int 45), (.int 45)]) (z := (2 : Int32)) own_lt0 (by decide) (by decide) (g := (mkF m 36 #[vr a1, vr a15, .unset] [(.ref a15)])) rfl (hb hby d20_36) (n := 8) (by decide) (by decide) (by decide) (by decide)
  have CS21 := CS0.ldc hC21 (Keep.refl h0 [a1]).1
  have K21 := (Keep.refl h0 [a1]).ext E21
  have O21 := O0.ext E21
  have f26 := (F_25.ext E21)
  have f29 := (F_28.ext E21)
  have f36 := (V_35.ext E21)
  have f38 := (E_19.ext E21)
  obtain ⟨_, T37, L37, X37, hQ37, st37⟩ := cV X21 hx hZ21 hown21 (W hw 149 rfl) (W hw 150 rfl) (notFace_of_selects (args := #[]) (mvT hZ21 (W hw 152 rfl))) (W hw 152 rfl) (W hw 151 rfl) (W hw 153 rfl) (W hw 2 rfl) (by decide) (rm26_4 l Z a0 hw [] a15 b21 p22 a27 bb21 k30 p31 p32 p33 p34 kk21 h21 n0 O21 (hne21 a15 (CS21.2 a15 g_a15 E_19.lt)).1 La21 S_23 hc24 f26 Lc21 f29 Lv21 f36 Lb21) e21 f38 #[vr a1, vr a15, .unset] [] (by rw [hml]; rfl) (hb hby d20_38) pd_20 rfl (W := 0) (Nat.le_of_eq rfl) (by decide) (by decide) (by decide) (by decide)
  obtain ⟨rfl, Nq37, e37⟩ := hQ37
  have N37 := Fr.app N18 Nq37
  obtain ⟨b39, T39, h39, k39, bb39, kk39, X39, e39, E39, hS39, hk39, hZ39, hown39, La39, Lc39, Lv39, Lb39, -, -, hC39, -, hne39, st39⟩ := ldcCH (s := s) (vm0 := T21.vm) X37 hx hZ21 hown21 (W hw 157 rfl) (own_wS hw) e37 hS21 hk21 (own_EW hw) (List.mem_of_getElem? (i := 1) rfl) CS21.1 (vs := [(.int 45)]) (z := (1 : Int32)) own_lt1 (by decide) (by decide) (g := (mkF m 57 #[vr a1, vr a15, .unset] [(.ref a15)])) rfl (hb hby d20_57) (n := 4) (by decide) (by decide) (by decide) (by decide)
  have CS39 := CS21.ldc hC39 K21.1
  have K39 := K21.ext E39
  have O39 := O21.ext E39
  have f40 := (f38.ext E39)
  have f41 := (f29.ext E39)
  have f42 := (f36.ext E39)
  have f43 := (f26.ext E39)
  obtain ⟨_, T45, L45, X45, hQ45, st45⟩ := cV X39 hx hZ39 hown39 (W hw 158 rfl) (W hw 159 rfl) (notFace_of_selects (args := #[]) (mvT hZ39 (W hw 161 rfl))) (W hw 161 rfl) (W hw 160 rfl) (W hw 162 rfl) (W hw 2 rfl) (by decide) (rm28_2 l Z a0 hw [] a15 b39 a27 k30 p31 p32 p33 p34 p22 bb39 kk39 h39 n0 O39 f40 f41 f42 S_23 hc24 f43 La39 Lv39 Lb39 Lc39 hc44) e39 f40 #[vr a1, vr a15, .unset] [] (by rw [hml]; rfl) (hb hby d20_59) pd_36 rfl (W := 0) (Nat.le_of_eq rfl) (by decide) (by decide) (by decide) (by decide)
  obtain ⟨rfl, Nq45, e45⟩ := hQ45
  have N45 := Fr.app N37 Nq45
  obtain ⟨b46, T46, h46, k46, bb46, kk46, X46, e46, E46, hS46, hk46, hZ46, hown46, La46, Lc46, Lv46, Lb46, -, -, hC46, -, hne46, st46⟩ := ldcCH (s := s) (vm0 := T39.vm) X45 hx hZ39 hown39 (W hw 157 rfl) (own_wS hw) e45 hS39 hk39 (own_EW hw) (List.mem_of_getElem? (i := 1) rfl) CS39.1 (vs := [(.int 45)]) (z := (1 : Int32)) own_lt1 (by decide) (by decide) (g := (mkF m 66 #[vr a1, vr a15, .unset] [(.ref a15)])) rfl (hb hby d20_66) (n := 4) (by decide) (by decide) (by decide) (by decide)
  have CS46 := CS39.ldc hC46 K39.1
  have K46 := K39.ext E46
  have O46 := O39.ext E46
  have f47 := (f43.ext E46)
  have f48 := (f41.ext E46)
  have f49 := (f42.ext E46)
  have f51 := (f40.ext E46)
  obtain ⟨_, T50, L50, X50, hQ50, st50⟩ := cV X46 hx hZ46 hown46 (W hw 149 rfl) (W hw 150 rfl) (notFace_of_selects (args := #[]) (mvT hZ46 (W hw 152 rfl))) (W hw 152 rfl) (W hw 151 rfl) (W hw 153 rfl) (W hw 2 rfl) (by decide) (rm26_5 l Z a0 hw [] a15 b46 p22 a27 bb46 k30 p31 p32 p33 p34 kk46 h46 n0 O46 (hne46 a15 (CS46.2 a15 g_a15 E_19.lt)).1 La46 S_23 hc24 f47 Lc46 f48 Lv46 f49 Lb46) e46 f51 #[vr a1, vr a15, .unset] [] (by rw [hml]; rfl) (hb hby d20_68) pd_20 rfl (W := 0) (Nat.le_of_eq rfl) (by decide) (by decide) (by decide) (by decide)
  obtain ⟨rfl, Nq50, e50⟩ := hQ50
  have N50 := Fr.app N45 Nq50
  have f52 := (((F_2.ext E21).ext E39).ext E46)
  obtain ⟨T53, X53, e53, st53⟩ := getF X50 hx hZ46 hown46 (host := "") (Or.inl (W hw 113 rfl)) Via.refl e50 f52 (g := (mkF m 78 #[vr a1, vr a15, .unset] [(.ref a1), (.ref a1)])) rfl rfl (hb hby d20_78)
  have f55 := (((E_54.ext E21).ext E39).ext E46)
  obtain ⟨T56, h56, X56, e56, W56, st56⟩ := putF X53 hx hZ46 hown46 (host := "") (Or.inl (W hw 113 rfl)) Via.refl e53 f52 f55 (Or.inl (W hw 114 rfl)) (W hw 100 rfl) (ty := .int) (by decide) rfl rfl (g := (mkF m 83 #[vr a1, vr a15, .unset] [(.int 1), (.ref a1)])) rfl rfl (hb hby d20_83)
  have K56 := K46.wr W56 (Or.inl (List.mem_of_getElem? (i := 0) rfl))
  have O56 := O46.wr W56 g_a1
  have N56 := Fr.snoc X56 N50 g_a1
  have CS56 := CS46.wr W56 g_a1 F_2.lt
  have Fw56 := f52.same W56
  obtain ⟨b59, T59, h59, k59, bb59, kk59, X59, e59, E59, hS59, hk59, hZ59, hown59, La59, Lc59, Lv59, Lb59, -, -, hC59, -, hne59, st59⟩ := ldcCH (s := s) (vm0 := T46.vm) X56 hx hZ46 hown46 (W hw 146 rfl) (own_wS hw) e56 hS46 (Nat.le_trans hk46 (Keep.of_wr W56).1) (own_EW hw) (List.mem_of_getElem? (i := 0) rfl) CS56.1 (vs := [(.int 45), (.int 45)]) (z := (2 : Int32)) own_lt0 (by decide) (by decide) (g := (mkF m 87 #[vr a1, vr a15, .unset] [(.ref a15)])) rfl (hb hby d20_87) (n := 8) (by decide) (by decide) (by decide) (by decide)
  have K59 := K56.ext E59
  have O59 := O56.ext E59
  have f60 := ((f51.wr W56).ext E59)
  have f61 := ((f48.other W56 (Or.inl ne_a15_a1)).ext E59)
  have f62 := ((f49.other W56 ne_a27_a1).ext E59)
  have f63 := ((f47.other W56 (Or.inl ne_a15_a1)).ext E59)
  obtain ⟨_, T65, L65, X65, hQ65, st65⟩ := cV X59 hx hZ59 hown59 (W hw 158 rfl) (W hw 159 rfl) (notFace_of_selects (args := #[]) (mvT hZ59 (W hw 161 rfl))) (W hw 161 rfl) (W hw 160 rfl) (W hw 162 rfl) (W hw 2 rfl) (by decide) (rm28_3 l Z a0 hw [] a15 b59 a27 k30 p31 p32 p33 p34 p22 bb59 kk59 h59 n0 O59 f60 f61 f62 S_23 hc24 f63 La59 Lv59 Lb59 Lc59 hc44 hc64) e59 f60 #[vr a1, vr a15, .unset] [] (by rw [hml]; rfl) (hb hby d20_89) pd_36 rfl (W := 0) (Nat.le_of_eq rfl) (by decide) (by decide) (by decide) (by decide)
  obtain ⟨rfl, Nq65, e65⟩ := hQ65
  have N65 := Fr.app N56 Nq65
  obtain ⟨_, T70, L70, X70, hQ70, st70⟩ := cV X65 hx hZ59 hown59 (W hw 182 rfl) (W hw 183 rfl) (notFace_of_selects (args := #[]) (mvT hZ59 (W hw 185 rfl))) (W hw 185 rfl) (W hw 184 rfl) (W hw 186 rfl) (W hw 2 rfl) (by decide) (rm33 l Z a0 hw [] a15 p22 a27 k30 p31 p32 p33 p34 h59 n0 O59 f60 S_23 hc24 f63 f61 f62 hc66 hc67 hc68 hc69) e65 f60 #[vr a1, vr a15, .unset] [] (by rw [hml]; rfl) (hb hby d20_98) pd_42 rfl (W := 0) (Nat.le_of_eq rfl) (by decide) (by decide) (by decide) (by decide)
  obtain ⟨rfl, Nq70, e70⟩ := hQ70
  have N70 := Fr.app N65 Nq70
  have f71 := (((((F_57.ext E21).ext E39).ext E46).other W56 (Or.inr (slot_ne (Or.inl (W hw 211 rfl)) (Or.inl (W hw 114 rfl)) (by decide) (t := (.object "java/lang/String")) (t' := .int) (by decide) (by decide)))).ext E59)
  have f72 := ((f55.wr W56).ext E59)
  obtain ⟨T73, h73, X73, e73, W73, st73⟩ := putF X70 hx hZ59 hown59 (host := "") (Or.inl (W hw 210 rfl)) Via.refl e70 f71 f72 (Or.inl (W hw 211 rfl)) (W hw 100 rfl) (ty := (.object "java/lang/String")) (by decide) rfl rfl (g := (mkF m 117 #[vr a1, vr a15, vi (-1)] [(.ref a15), (.ref a1)])) rfl rfl (hb hby d20_117)
  have K73 := K59.wr W73 (Or.inl (List.mem_of_getElem? (i := 0) rfl))
  have N73 := Fr.snoc X73 N70 g_a1
  have Fw73 := f71.same W73
  have f74 := ((((((F_58.ext E21).ext E39).ext E46).other W56 (Or.inr (slot_ne (Or.inl (W hw 213 rfl)) (Or.inl (W hw 114 rfl)) (by decide) (t := (.object "java/lang/String")) (t' := .int) (by decide) (by decide)))).ext E59).other W73 (Or.inr (slot_ne (Or.inl (W hw 213 rfl)) (Or.inl (W hw 211 rfl)) (by decide) (t := (.object "java/lang/String")) (t' := (.object "java/lang/String")) (by decide) (by decide))))
  have f75 := (f72.wr W73)
  obtain ⟨T76, h76, X76, e76, W76, st76⟩ := putF X73 hx hZ59 hown59 (host := "") (Or.inl (W hw 212 rfl)) Via.refl e73 f74 f75 (Or.inl (W hw 213 rfl)) (W hw 100 rfl) (ty := (.object "java/lang/String")) (by decide) rfl rfl (g := (mkF m 136 #[vr a1, vr a15, vi (-1)] [.null, (.ref a1)])) rfl rfl (hb hby d20_136)
  have K76 := K73.wr W76 (Or.inl (List.mem_of_getElem? (i := 0) rfl))
  have N76 := Fr.snoc X76 N73 g_a1
  have Fw76 := f74.same W76
  have f77 := (Fw73.other W76 (Or.inr (slot_ne (Or.inl (W hw 211 rfl)) (Or.inl (W hw 213 rfl)) (by decide) (t := (.object "java/lang/String")) (t' := (.object "java/lang/String")) (by decide) (by decide))))
  obtain ⟨T78, X78, e78, st78⟩ := getF X76 hx hZ59 hown59 (host := "") (Or.inl (W hw 210 rfl)) Via.refl e76 f77 (g := (mkF m 174 #[vr a1, vr a15, vi (-1)] [(.ref a1)])) rfl rfl (hb hby d20_174)
  have f79 := (((Fw56.ext E59).other W73 (Or.inr (slot_ne (Or.inl (W hw 114 rfl)) (Or.inl (W hw 211 rfl)) (by decide) (t := .int) (t' := (.object "java/lang/String")) (by decide) (by decide)))).other W76 (Or.inr (slot_ne (Or.inl (W hw 114 rfl)) (Or.inl (W hw 213 rfl)) (by decide) (t := .int) (t' := (.object "java/lang/String")) (by decide) (by decide))))
  have f80 := (((((((F_5.ext E21).ext E39).ext E46).other W56 (Or.inr (slot_ne (Or.inr (W hw 107 rfl)) (Or.inl (W hw 114 rfl)) (by decide) (t := (.object "java/util/List")) (t' := .int) (by decide) (by decide)))).ext E59).other W73 (Or.inr (slot_ne (Or.inr (W hw 107 rfl)) (Or.inl (W hw 211 rfl)) (by decide) (t := (.object "java/util/List")) (t' := (.object "java/lang/String")) (by decide) (by decide)))).other W76 (Or.inr (slot_ne (Or.inr (W hw 107 rfl)) (Or.inl (W hw 213 rfl)) (by decide) (t := (.object "java/util/List")) (t' := (.object "java/lang/String")) (by decide) (by decide))))
  have f81 := (f75.wr W76)
  obtain ⟨fs, hr, hrun, hended, hREW⟩ := X78.leaveW (s := s) hS59 (by rw [e78]; exact (Nat.le_trans (Nat.le_trans hk59 (Keep.of_wr W73).1) (Keep.of_wr W76).1)) (v := some (.ref a15)) (fun h => by rw [Bd.returns] at h; cases h)
  refine ⟨_, _, pre0 _ ?_, hrun, hended, _, _, rfl, ?_, hREW.1, hREW.2.1, hREW.2.2.1, hREW.2.2.2.mono (by decide) (by decide)⟩
  · show Steps p.tables e below (s₁.setTop (mkF m 0 #[vr a1, .unset, .unset] [])) _
    refine XS.aloadN X0.here hx rfl (hb hby d20_0) rfl rfl ?_
    refine st3 _ ?_
    refine XS.aloadN X3.here hx rfl (hb hby d20_4) rfl rfl ?_
    refine st6 _ ?_
    refine st9 _ ?_
    refine XS.icmpYes X9.here hx rfl (pc0 := 13) (pc' := 18) rfl (hb hby d20_13) rfl (feq ((by decide) : ¬ ((0 : Int32) = (2 : Int32)))).2 (by decide) (by decide) ?_
    refine XS.aloadN X9.here hx rfl (hb hby d20_18) rfl rfl ?_
    refine st10 _ ?_
    refine XS.aloadN X10.here hx rfl (hb hby d20_22) rfl rfl ?_
    refine st11 _ ?_
    show Steps p.tables e below (T11.setTop (mkF m 26 #[vr a1, .unset, .unset] [(.int 0), (.ref a4)])) _
    refine st18 _ ?_
    refine st20 _ ?_
    refine XS.astoreN X20.here hx rfl (hb hby d20_34) rfl rfl (l' := #[vr a1, vr a15, .unset]) rfl ?_
    refine XS.aloadN X20.here hx rfl (hb hby d20_35) rfl rfl ?_
    refine st21 _ ?_
    refine st37 _ ?_
    refine XS.ifYes X37.here hx rfl (pc0 := 41) (pc' := 56) rfl (hb hby d20_41) rfl ((if0 _ _).trans (teq ((by decide) : (0 : Int32) = (0 : Int32))).1) (by decide) (by decide) ?_
    refine XS.aloadN X37.here hx rfl (hb hby d20_56) rfl rfl ?_
    refine st39 _ ?_
    refine st45 _ ?_
    show Steps p.tables e below (T45.setTop (mkF m 62 #[vr a1, vr a15, .unset] [(.int 1)])) _
    refine XS.ifNo X45.here hx rfl (hb hby d20_62) rfl ((if0 _ _).trans (feq ((by decide) : ¬ ((1 : Int32) = (0 : Int32)))).1) ?_
    refine XS.aloadN X45.here hx rfl (hb hby d20_65) rfl rfl ?_
    refine st46 _ ?_
    refine st50 _ ?_
    refine XS.ifYes X50.here hx rfl (pc0 := 71) (pc' := 76) rfl (hb hby d20_71) rfl ((if0 _ _).trans (teq ((by decide) : (0 : Int32) = (0 : Int32))).1) (by decide) (by decide) ?_
    refine XS.aloadN X50.here hx rfl (hb hby d20_76) rfl rfl ?_
    refine XS.dup X50.here hx rfl (hb hby d20_77) rfl rfl ?_
    refine st53 _ ?_
    refine XS.iconst X53.here hx rfl (hb hby d20_81) ?_
    refine XS.iadd X53.here hx rfl (hb hby d20_82) rfl ?_
    show Steps p.tables e below (T53.setTop (mkF m 83 #[vr a1, vr a15, .unset] [(.int ((0 : Int32) + (1 : Int32))), (.ref a1)])) _
    rw [show ((0 : Int32) + (1 : Int32)) = (1 : Int32) from by decide]
    refine st56 _ ?_
    refine XS.aloadN X56.here hx rfl (hb hby d20_86) rfl rfl ?_
    refine st59 _ ?_
    refine st65 _ ?_
    refine XS.ifNo X65.here hx rfl (hb hby d20_92) rfl ((if0 _ _).trans (feq ((by decide) : ¬ ((1 : Int32) = (0 : Int32)))).1) ?_
    refine XS.aloadN X65.here hx rfl (hb hby d20_95) rfl rfl ?_
    refine XS.bipush X65.here hx rfl (hb hby d20_96) ?_
    refine st70 _ ?_
    refine XS.istoreN X70.here hx rfl (hb hby d20_101) rfl (l' := #[vr a1, vr a15, vi (-1)]) rfl ?_
    show Steps p.tables e below (T70.setTop (mkF m 102 #[vr a1, vr a15, vi (-1)] [])) _
    refine XS.aloadN X70.here hx rfl (hb hby d20_102) rfl rfl ?_
    refine XS.iloadN X70.here hx rfl (hb hby d20_103) rfl ?_
    refine XS.ifNo X70.here hx rfl (hb hby d20_104) rfl ((if0 _ _).trans (tlt ((by decide) : (-1 : Int32) < (0 : Int32))).2.1) ?_
    refine XS.aloadN X70.here hx rfl (hb hby d20_107) rfl rfl ?_
    refine XS.goto X70.here hx rfl (pc0 := 108) (pc' := 117) rfl (hb hby d20_108) (by decide) (by decide) ?_
    refine st73 _ ?_
    refine XS.aloadN X73.here hx rfl (hb hby d20_120) rfl rfl ?_
    refine XS.iloadN X73.here hx rfl (hb hby d20_121) rfl ?_
    refine XS.ifNo X73.here hx rfl (hb hby d20_122) rfl ((if0 _ _).trans (tlt ((by decide) : (-1 : Int32) < (0 : Int32))).2.1) ?_
    refine XS.aconstNull X73.here hx rfl (hb hby d20_125) ?_
    show Steps p.tables e below (T73.setTop (mkF m 126 #[vr a1, vr a15, vi (-1)] [.null, (.ref a1)])) _
    refine XS.goto X73.here hx rfl (pc0 := 126) (pc' := 136) rfl (hb hby d20_126) (by decide) (by decide) ?_
    refine st76 _ ?_
    refine XS.goto X76.here hx rfl (pc0 := 139) (pc' := 173) rfl (hb hby d20_139) (by decide) (by decide) ?_
    refine XS.aloadN X76.here hx rfl (hb hby d20_173) rfl rfl ?_
    refine st78 _ ?_
    jvm_step X78.here [X78.here.top, hx, (hb hby d20_177), X78.method', Bd.returns, Value.isRef, FieldType.isReference]
    first | (intro acts; rw [hr _ acts rfl rfl rfl]) | rw [hr _ _ rfl rfl rfl]
    exact Steps.refl _
  · show Qrm20_5 Z a1 a4 a12 k14 a15 a16 p22 a27 k30 p31 p32 p33 p34 h0 n0 _ T78.heap _
    rw [e78]
    exact ⟨rfl, N76, K76, f79, f80, f81, f77, Fw76⟩
def Qrm27_5 (Z : State) (a1 : Addr) (a2 : Addr) (k3 : ClassId) (p4 : Int32) (k7 : ClassId) (h0 : Heap) (n0 : Nat) (v : Option Value) (h : Heap) (L : List Loc) : Prop := v = some (.int 0) ∧ Fr n0 L ∧ h = h0
set_option maxRecDepth 65536 in
set_option maxHeartbeats 40000000 in
theorem rm27_5 (l : Launch) (Z : State) (a0 : Array Value) (hw : ∀ d ∈ tables_1, d.before a0 Z = true) (ws : List Jvm.Cond) (a1 : Addr) (a2 : Addr) (k3 : ClassId) (p4 : Int32) (k7 : ClassId) (h0 : Heap) (n0 : Nat) (O0 : Old Z n0 h0) (V_5 : Arv Z h0 a1 k3 .byte (1 : Int32) [(.int p4)] (.int 0)) (V_8 : Arv Z h0 a2 k7 .byte (2 : Int32) [(.int 45), (.int 45)] (.int (0 : Int32))) :
    MF l Z h0 (⟨"java/lang/StringLatin1", "equals", "([B[B)Z"⟩ : MethodName) jdk_43_method_13_code 3 (some .boolean) ws (⟨0, 0, 0, 0⟩ : Room) #[(.ref a1), (.ref a2)] (Qrm27_5 Z a1 a2 k3 p4 k7 h0 n0) := by
  refine MetFree.of_bodySF (plainFor_of_name pn_7) hisR ?_
  intro p e s m args below meth c s₁ Bd hml0 hP hK
  obtain ⟨rfl, hZ, hh⟩ := hP
  have hx := Bd.exec
  have hby := Bd.bytes
  have X0 : Stand p l e (⟨0, 0, 0, 0⟩ : Room) s m #[(.ref a1), (.ref a2)] below meth c s₁ [] 0 0 := Stand.of_body Bd
  have e0 : s₁.heap = h0 := by rw [← hh, Bd.state]; rfl
  have N0 := Fr.nil n0
  have pre0 : ∀ t, Steps p.tables e below (s₁.setTop (mkF m 0 #[vr a1, vr a2, .unset] [])) t → Steps p.tables e below (s₁.setTop (entryFrame m #[(.ref a1), (.ref a2)] 3)) t := fun t k => castTop (ef_27_RR m a1 a2) k
  obtain ⟨cl6, Ar6, q6, S6, M6, Hs6, G6⟩ := id V_5
  obtain ⟨cl9, Ar9, q9, S9, M9, Hs9, G9⟩ := id V_8
  obtain ⟨fs, hr, hrun, hended, hW, hsame⟩ := X0.leave (v := some (.int 0)) (fun h => by rw [Bd.returns] at h; cases h)
  refine ⟨_, _, pre0 _ ?_, hrun, hended, _, _, rfl, ?_, ⟨_, rfl⟩, hW, hsame.mono (by decide) (by decide)⟩
  · show Steps p.tables e below (s₁.setTop (mkF m 0 #[vr a1, vr a2, .unset] [])) _
    refine XS.aloadN X0.here hx rfl (hb hby d27_0) rfl rfl ?_
    refine X0.arraylength hx (by rw [e0]; exact Ar6.1) (State.isArrayOf_alike hZ.alike Ar6.2.1) (g := (mkF m 1 #[vr a1, vr a2, .unset] [(.ref a1)])) rfl rfl (hb hby d27_1) _ ?_
    rw [len_of S6 M6]
    refine XS.aloadN X0.here hx rfl (hb hby d27_2) rfl rfl ?_
    refine X0.arraylength hx (by rw [e0]; exact Ar9.1) (State.isArrayOf_alike hZ.alike Ar9.2.1) (g := (mkF m 3 #[vr a1, vr a2, .unset] [(.ref a2), (.int 1)])) rfl rfl (hb hby d27_3) _ ?_
    rw [len_of S9 M9]
    refine XS.icmpYes X0.here hx rfl (pc0 := 4) (pc' := 34) rfl (hb hby d27_4) rfl (feq ((by decide) : ¬ ((1 : Int32) = (2 : Int32)))).2 (by decide) (by decide) ?_
    refine XS.iconst X0.here hx rfl (hb hby d27_34) ?_
    exact retN X0 hx (t := .boolean) Bd.returns (by simp) (hb hby d27_35) hr
  · show Qrm27_5 Z a1 a2 k3 p4 k7 h0 n0 _ s₁.heap _
    rw [e0]
    exact ⟨rfl, N0, rfl⟩
def Qrm26_6 (Z : State) (a1 : Addr) (a2 : Addr) (p6 : Int32) (a14 : Addr) (a17 : Addr) (k20 : ClassId) (p21 : Int32) (k23 : ClassId) (h0 : Heap) (n0 : Nat) (v : Option Value) (h : Heap) (L : List Loc) : Prop := v = some (.int 0) ∧ Fr n0 L ∧ h = h0
set_option maxRecDepth 65536 in
set_option maxHeartbeats 40000000 in
theorem rm26_6 (l : Launch) (Z : State) (a0 : Array Value) (hw : ∀ d ∈ tables_1, d.before a0 Z = true) (ws : List Jvm.Cond) (a1 : Addr) (a2 : Addr) (p6 : Int32) (a14 : Addr) (a17 : Addr) (k20 : ClassId) (p21 : Int32) (k23 : ClassId) (h0 : Heap) (n0 : Nat) (O0 : Old Z n0 h0) (ne_a1_a2 : a1 ≠ a2) (E_3 : Exa Z h0 a2 "java/lang/String") (S_7 : Sta Z Z.heap "java/lang/String" "COMPACT_STRINGS" "Z" (.int p6)) (hc9 : ¬ (p6 = (0 : Int32))) (F_10 : Fld Z h0 a1 "java/lang/String" "coder" "B" (.int 0)) (F_12 : Fld Z h0 a2 "java/lang/String" "coder" "B" (.int 0)) (F_15 : Fld Z h0 a1 "java/lang/String" "value" "[B" (.ref a14)) (F_18 : Fld Z h0 a2 "java/lang/String" "value" "[B" (.ref a17)) (V_22 : Arv Z h0 a14 k20 .byte (1 : Int32) [(.int p21)] (.int 0)) (V_24 : Arv Z h0 a17 k23 .byte (2 : Int32) [(.int 45), (.int 45)] (.int (0 : Int32))) :
    MF l Z h0 (⟨"java/lang/String", "equals", "(Ljava/lang/Object;)Z"⟩ : MethodName) jdk_42_method_66_code 3 (some .boolean) ws (⟨1, 0, 0, 14⟩ : Room) #[(.ref a1), (.ref a2)] (Qrm26_6 Z a1 a2 p6 a14 a17 k20 p21 k23 h0 n0) := by
  refine MetFree.of_bodySF (plainFor_of_name pn_4) hisR ?_
  intro p e s m args below meth c s₁ Bd hml0 hP hK
  obtain ⟨rfl, hZ, hh⟩ := hP
  have hx := Bd.exec
  have hby := Bd.bytes
  have hml : c.maxLocals = 3 := hml0
  have hown : s.vm.findClass "java/lang/String" = some m.cls := findClass_of_methodNamed Bd.named
  have X0 : Stand p l e (⟨1, 0, 0, 14⟩ : Room) s m #[(.ref a1), (.ref a2)] below meth c s₁ [] 0 0 := Stand.of_body Bd
  have e0 : s₁.heap = h0 := by rw [← hh, Bd.state]; rfl
  have N0 := Fr.nil n0
  have pre0 : ∀ t, Steps p.tables e below (s₁.setTop (mkF m 0 #[vr a1, vr a2, .unset] [])) t → Steps p.tables e below (s₁.setTop (entryFrame m #[(.ref a1), (.ref a2)] 3)) t := fun t k => castTop (ef_26_RR m a1 a2) k
  obtain ⟨T4, X4, e4, st4⟩ := instY X0 hx hZ hown (W hw 37 rfl) e0 (Ins.self E_3) (g := (mkF m 8 #[vr a1, vr a2, .unset] [(.ref a2)])) rfl rfl (hb hby d26_8)
  obtain ⟨T5, X5, e5, st5⟩ := castY X4 hx hZ hown (W hw 37 rfl) e4 (Ins.self E_3) (g := (mkF m 15 #[vr a1, vr a2, .unset] [(.ref a2)])) rfl rfl (hb hby d26_15)
  obtain ⟨T8, X8, e8, st8⟩ := getS2 X5 hx hZ hown (host := "") (Or.inl (W hw 14 rfl)) Via.refl e5 (S_7.ext O0.2) (g := (mkF m 19 #[vr a1, vr a2, vr a2] [])) rfl (hb hby d26_19)
  obtain ⟨T11, X11, e11, st11⟩ := getF X8 hx hZ hown (host := "") (Or.inl (W hw 26 rfl)) Via.refl e8 F_10 (g := (mkF m 26 #[vr a1, vr a2, vr a2] [(.ref a1)])) rfl rfl (hb hby d26_26)
  obtain ⟨T13, X13, e13, st13⟩ := getF X11 hx hZ hown (host := "") (Or.inl (W hw 26 rfl)) Via.refl e11 F_12 (g := (mkF m 30 #[vr a1, vr a2, vr a2] [(.ref a2), (.int 0)])) rfl rfl (hb hby d26_30)
  obtain ⟨T16, X16, e16, st16⟩ := getF X13 hx hZ hown (host := "") (Or.inl (W hw 28 rfl)) Via.refl e13 F_15 (g := (mkF m 37 #[vr a1, vr a2, vr a2] [(.ref a1)])) rfl rfl (hb hby d26_37)
  obtain ⟨T19, X19, e19, st19⟩ := getF X16 hx hZ hown (host := "") (Or.inl (W hw 28 rfl)) Via.refl e16 F_18 (g := (mkF m 41 #[vr a1, vr a2, vr a2] [(.ref a2), (.ref a14)])) rfl rfl (hb hby d26_41)
  obtain ⟨_, T25, L25, X25, hQ25, st25⟩ := cS X19 hx hZ hown (W hw 154 rfl) (W hw 155 rfl) (W hw 35 rfl) (W hw 156 rfl) (by decide) (rm27_5 l Z a0 hw [] a14 a17 k20 p21 k23 h0 n0 O0 V_22 V_24) e19 #[vr a1, vr a2, vr a2] [] (by rw [hml]; rfl) (hb hby d26_44) pd_28 rfl (W := 0) (Nat.le_of_eq rfl) (by decide) (by decide) (by decide) (by decide)
  obtain ⟨rfl, Nq25, e25⟩ := hQ25
  have N25 := Fr.app N0 Nq25
  obtain ⟨fs, hr, hrun, hended, hW, hsame⟩ := X25.leave (v := some (.int 0)) (fun h => by rw [Bd.returns] at h; cases h)
  refine ⟨_, _, pre0 _ ?_, hrun, hended, _, _, rfl, ?_, ⟨_, rfl⟩, hW, hsame.mono (by decide) (by decide)⟩
  · show Steps p.tables e below (s₁.setTop (mkF m 0 #[vr a1, vr a2, .unset] [])) _
    refine XS.aloadN X0.here hx rfl (hb hby d26_0) rfl rfl ?_
    refine XS.aloadN X0.here hx rfl (hb hby d26_1) rfl rfl ?_
    refine Jvm.RoadKit.acmp (g := (mkF m 2 #[vr a1, vr a2, .unset] [(.ref a2), (.ref a1)])) X0 hx rfl rfl rfl (pc0 := 2) (pc' := 7) (same := false) rfl (hb hby d26_2) rfl (decide_eq_false fun q => ne_a1_a2 (Value.ref.inj q)) (by decide) (by decide) ?_
    refine XS.aloadN X0.here hx rfl (hb hby d26_7) rfl rfl ?_
    refine st4 _ ?_
    refine XS.ifNo X4.here hx rfl (hb hby d26_11) rfl ((if0 _ _).trans (feq ((by decide) : ¬ ((1 : Int32) = (0 : Int32)))).1) ?_
    refine XS.aloadN X4.here hx rfl (hb hby d26_14) rfl rfl ?_
    refine st5 _ ?_
    refine XS.astoreN X5.here hx rfl (hb hby d26_18) rfl rfl (l' := #[vr a1, vr a2, vr a2]) rfl ?_
    refine st8 _ ?_
    show Steps p.tables e below (T8.setTop (mkF m 22 #[vr a1, vr a2, vr a2] [(.int p6)])) _
    refine XS.ifNo X8.here hx rfl (hb hby d26_22) rfl ((if0 _ _).trans (feq (hc9 : ¬ (p6 = (0 : Int32)))).1) ?_
    refine XS.aloadN X8.here hx rfl (hb hby d26_25) rfl rfl ?_
    refine st11 _ ?_
    refine XS.aloadN X11.here hx rfl (hb hby d26_29) rfl rfl ?_
    refine st13 _ ?_
    refine XS.icmpNo X13.here hx rfl (hb hby d26_33) rfl (teq ((by decide) : (0 : Int32) = (0 : Int32))).2 ?_
    refine XS.aloadN X13.here hx rfl (hb hby d26_36) rfl rfl ?_
    refine st16 _ ?_
    refine XS.aloadN X16.here hx rfl (hb hby d26_40) rfl rfl ?_
    refine st19 _ ?_
    show Steps p.tables e below (T19.setTop (mkF m 44 #[vr a1, vr a2, vr a2] [(.ref a17), (.ref a14)])) _
    refine st25 _ ?_
    refine XS.ifYes X25.here hx rfl (pc0 := 47) (pc' := 54) rfl (hb hby d26_47) rfl ((if0 _ _).trans (teq ((by decide) : (0 : Int32) = (0 : Int32))).1) (by decide) (by decide) ?_
    refine XS.iconst X25.here hx rfl (hb hby d26_54) ?_
    exact retN X25 hx (t := .boolean) Bd.returns (by simp) (hb hby d26_55) hr
  · show Qrm26_6 Z a1 a2 p6 a14 a17 k20 p21 k23 h0 n0 _ T25.heap _
    rw [e25]
    exact ⟨rfl, N25, rfl⟩
def Qrm30_3 (Z : State) (a1 : Addr) (a2 : Addr) (k5 : ClassId) (p6 : Int32) (p10 : Int32) (h0 : Heap) (n0 : Nat) (v : Option Value) (h : Heap) (L : List Loc) : Prop := v = some (.int 1) ∧ Fr n0 L ∧ h = h0
set_option maxRecDepth 65536 in
set_option maxHeartbeats 40000000 in
theorem rm30_3 (l : Launch) (Z : State) (a0 : Array Value) (hw : ∀ d ∈ tables_1, d.before a0 Z = true) (ws : List Jvm.Cond) (a1 : Addr) (a2 : Addr) (k5 : ClassId) (p6 : Int32) (p10 : Int32) (h0 : Heap) (n0 : Nat) (O0 : Old Z n0 h0) (F_3 : Fld Z h0 a1 "java/lang/String" "value" "[B" (.ref a2)) (V_7 : Arv Z h0 a2 k5 .byte (1 : Int32) [(.int p6)] (.int 0)) (E_9 : Exa Z h0 a1 "java/lang/String") (S_11 : Sta Z Z.heap "java/lang/String" "COMPACT_STRINGS" "Z" (.int p10)) (hc12 : ¬ (p10 = (0 : Int32))) (F_13 : Fld Z h0 a1 "java/lang/String" "coder" "B" (.int 0)) :
    MF l Z h0 (⟨"java/lang/String", "length", "()I"⟩ : MethodName) jdk_42_method_54_code 1 (some .int) ws (⟨1, 0, 0, 13⟩ : Room) #[(.ref a1)] (Qrm30_3 Z a1 a2 k5 p6 p10 h0 n0) := by
  refine MetFree.of_bodySF (plainFor_of_name pn_4) hisR ?_
  intro p e s m args below meth c s₁ Bd hml0 hP hK
  obtain ⟨rfl, hZ, hh⟩ := hP
  have hx := Bd.exec
  have hby := Bd.bytes
  have hml : c.maxLocals = 1 := hml0
  have hown : s.vm.findClass "java/lang/String" = some m.cls := findClass_of_methodNamed Bd.named
  have X0 : Stand p l e (⟨1, 0, 0, 13⟩ : Room) s m #[(.ref a1)] below meth c s₁ [] 0 0 := Stand.of_body Bd
  have e0 : s₁.heap = h0 := by rw [← hh, Bd.state]; rfl
  have N0 := Fr.nil n0
  have pre0 : ∀ t, Steps p.tables e below (s₁.setTop (mkF m 0 #[vr a1] [])) t → Steps p.tables e below (s₁.setTop (entryFrame m #[(.ref a1)] 1)) t := fun t k => castTop (ef_30_R m a1) k
  obtain ⟨T4, X4, e4, st4⟩ := getF X0 hx hZ hown (host := "") (Or.inl (W hw 28 rfl)) Via.refl e0 F_3 (g := (mkF m 1 #[vr a1] [(.ref a1)])) rfl rfl (hb hby d30_1)
  obtain ⟨cl8, Ar8, q8, S8, M8, Hs8, G8⟩ := id V_7
  obtain ⟨_, T14, L14, X14, hQ14, st14⟩ := cV X4 hx hZ hown (W hw 173 rfl) (W hw 174 rfl) (notFace_of_selects (args := #[]) (mvT hZ (W hw 176 rfl))) (W hw 176 rfl) (W hw 175 rfl) (W hw 177 rfl) (W hw 2 rfl) (by decide) (rm31 l Z a0 hw [] a1 p10 h0 n0 O0 S_11 hc12 F_13) e4 E_9 #[vr a1] [(.int 1)] (by rw [hml]; rfl) (hb hby d30_6) pd_32 rfl (W := 1) (Nat.le_of_eq rfl) (by decide) (by decide) (by decide) (by decide)
  obtain ⟨rfl, Nq14, e14⟩ := hQ14
  have N14 := Fr.app N0 Nq14
  obtain ⟨fs, hr, hrun, hended, hW, hsame⟩ := X14.leave (v := some (.int 1)) (fun h => by rw [Bd.returns] at h; cases h)
  refine ⟨_, _, pre0 _ ?_, hrun, hended, _, _, rfl, ?_, ⟨_, rfl⟩, hW, hsame.mono (by decide) (by decide)⟩
  · show Steps p.tables e below (s₁.setTop (mkF m 0 #[vr a1] [])) _
    refine XS.aloadN X0.here hx rfl (hb hby d30_0) rfl rfl ?_
    refine st4 _ ?_
    refine X4.arraylength hx (by rw [e4]; exact Ar8.1) (State.isArrayOf_alike hZ.alike Ar8.2.1) (g := (mkF m 4 #[vr a1] [(.ref a2)])) rfl rfl (hb hby d30_4) _ ?_
    rw [len_of S8 M8]
    refine XS.aloadN X4.here hx rfl (hb hby d30_5) rfl rfl ?_
    refine st14 _ ?_
    refine XS.ishr X14.here hx rfl (hb hby d30_9) rfl ?_
    show Steps p.tables e below (T14.setTop (mkF m 10 #[vr a1] [(.int ((1 : Int32) >>> ((0 : Int32) &&& 31)))])) _
    rw [show ((1 : Int32) >>> ((0 : Int32) &&& 31)) = (1 : Int32) from by decide]
    exact retI X14 hx Bd.returns (hb hby d30_10) hr
  · show Qrm30_3 Z a1 a2 k5 p6 p10 h0 n0 _ T14.heap _
    rw [e14]
    exact ⟨rfl, N14, rfl⟩
def Qrm32_4 (Z : State) (a1 : Addr) (a2 : Addr) (k3 : ClassId) (p4 : Int32) (k7 : ClassId) (h0 : Heap) (n0 : Nat) (v : Option Value) (h : Heap) (L : List Loc) : Prop := v = some (.int (-1)) ∧ Fr n0 L ∧ h = h0
set_option maxRecDepth 65536 in
set_option maxHeartbeats 40000000 in
theorem rm32_4 (l : Launch) (Z : State) (a0 : Array Value) (hw : ∀ d ∈ tables_1, d.before a0 Z = true) (ws : List Jvm.Cond) (a1 : Addr) (a2 : Addr) (k3 : ClassId) (p4 : Int32) (k7 : ClassId) (h0 : Heap) (n0 : Nat) (O0 : Old Z n0 h0) (V_5 : Arv Z h0 a1 k3 .byte (1 : Int32) [(.int p4)] (.int 0)) (V_8 : Arv Z h0 a2 k7 .byte (1 : Int32) [(.int 45)] (.int (0 : Int32))) (hc10 : p4 = (45 : Int32)) :
    MF l Z h0 (⟨"jdk/internal/util/ArraysSupport", "mismatch", "([BI[BII)I"⟩ : MethodName) jdk_48_method_14_code 8 (some .int) ws (⟨0, 0, 0, 0⟩ : Room) #[(.ref a1), (.int 0), (.ref a2), (.int 0), (.int 1)] (Qrm32_4 Z a1 a2 k3 p4 k7 h0 n0) := by
  refine MetFree.of_bodySF (plainFor_of_name pn_33) hisR ?_
  intro p e s m args below meth c s₁ Bd hml0 hP hK
  obtain ⟨rfl, hZ, hh⟩ := hP
  have hx := Bd.exec
  have hby := Bd.bytes
  have X0 : Stand p l e (⟨0, 0, 0, 0⟩ : Room) s m #[(.ref a1), (.int 0), (.ref a2), (.int 0), (.int 1)] below meth c s₁ [] 0 0 := Stand.of_body Bd
  have e0 : s₁.heap = h0 := by rw [← hh, Bd.state]; rfl
  have N0 := Fr.nil n0
  have pre0 : ∀ t, Steps p.tables e below (s₁.setTop (mkF m 0 #[vr a1, vi 0, vr a2, vi 0, vi 1, .unset, .unset, .unset] [])) t → Steps p.tables e below (s₁.setTop (entryFrame m #[(.ref a1), (.int 0), (.ref a2), (.int 0), (.int 1)] 8)) t := fun t k => castTop (ef_32_RIRII m a1 (0 : Int32) a2 (0 : Int32) (1 : Int32)) k
  obtain ⟨cl6, Ar6, q6, S6, M6, Hs6, G6⟩ := id V_5
  have hin6 : ¬ ((0 : Int32) < 0 ∨ cl6.slots.size ≤ ((0 : Int32)).toNatClampNeg) := inb_of S6 ⟨by decide, by decide⟩
  have hat6 : cl6.slots[((0 : Int32)).toNatClampNeg]? = some (.int p4) := Has.at Hs6 hin6 rfl
  obtain ⟨cl9, Ar9, q9, S9, M9, Hs9, G9⟩ := id V_8
  have hin9 : ¬ ((0 : Int32) < 0 ∨ cl9.slots.size ≤ ((0 : Int32)).toNatClampNeg) := inb_of S9 ⟨by decide, by decide⟩
  have hat9 : cl9.slots[((0 : Int32)).toNatClampNeg]? = some (.int 45) := Has.at Hs9 hin9 rfl
  obtain ⟨fs, hr, hrun, hended, hW, hsame⟩ := X0.leave (v := some (.int (-1))) (fun h => by rw [Bd.returns] at h; cases h)
  refine ⟨_, _, pre0 _ ?_, hrun, hended, _, _, rfl, ?_, ⟨_, rfl⟩, hW, hsame.mono (by decide) (by decide)⟩
  · show Steps p.tables e below (s₁.setTop (mkF m 0 #[vr a1, vi 0, vr a2, vi 0, vi 1, .unset, .unset, .unset] [])) _
    refine XS.iconst X0.here hx rfl (hb hby d32_0) ?_
    refine XS.istore X0.here hx rfl (hb hby d32_1) rfl (l' := #[vr a1, vi 0, vr a2, vi 0, vi 1, vi 0, .unset, .unset]) rfl ?_
    refine XS.iload X0.here hx rfl (hb hby d32_3) rfl ?_
    refine XS.bipush X0.here hx rfl (hb hby d32_5) ?_
    refine XS.icmpYes X0.here hx rfl (pc0 := 7) (pc' := 70) rfl (hb hby d32_7) rfl (flt ((by decide) : ¬ ((7 : Int32) < (1 : Int32)))).2.2.2 (by decide) (by decide) ?_
    refine XS.iload X0.here hx rfl (hb hby d32_70) rfl ?_
    refine XS.iload X0.here hx rfl (hb hby d32_72) rfl ?_
    refine XS.icmpNo X0.here hx rfl (hb hby d32_74) rfl (tlt ((by decide) : (0 : Int32) < (1 : Int32))).2.1 ?_
    refine XS.aloadN X0.here hx rfl (hb hby d32_77) rfl rfl ?_
    refine XS.iloadN X0.here hx rfl (hb hby d32_78) rfl ?_
    show Steps p.tables e below (s₁.setTop (mkF m 79 #[vr a1, vi 0, vr a2, vi 0, vi 1, vi 0, .unset, .unset] [(.int 0), (.ref a1)])) _
    refine XS.iload X0.here hx rfl (hb hby d32_79) rfl ?_
    refine XS.iadd X0.here hx rfl (hb hby d32_81) rfl ?_
    show Steps p.tables e below (s₁.setTop (mkF m 82 #[vr a1, vi 0, vr a2, vi 0, vi 1, vi 0, .unset, .unset] [(.int ((0 : Int32) + (0 : Int32))), (.ref a1)])) _
    rw [show ((0 : Int32) + (0 : Int32)) = (0 : Int32) from by decide]
    refine X0.baloadBytes hx (j := (0 : Int32)) (v := (.int p4)) (by rw [e0]; exact Ar6.1) (State.isArrayOf_alike hZ.alike Ar6.2.1) Ar6.2.2 hin6 hat6 (g := (mkF m 82 #[vr a1, vi 0, vr a2, vi 0, vi 1, vi 0, .unset, .unset] [(.int 0), (.ref a1)])) rfl rfl (hb hby d32_82) _ ?_
    refine XS.aloadN X0.here hx rfl (hb hby d32_83) rfl rfl ?_
    refine XS.iloadN X0.here hx rfl (hb hby d32_84) rfl ?_
    refine XS.iload X0.here hx rfl (hb hby d32_85) rfl ?_
    refine XS.iadd X0.here hx rfl (hb hby d32_87) rfl ?_
    show Steps p.tables e below (s₁.setTop (mkF m 88 #[vr a1, vi 0, vr a2, vi 0, vi 1, vi 0, .unset, .unset] [(.int ((0 : Int32) + (0 : Int32))), (.ref a2), (.int p4)])) _
    rw [show ((0 : Int32) + (0 : Int32)) = (0 : Int32) from by decide]
    refine X0.baloadBytes hx (j := (0 : Int32)) (v := (.int 45)) (by rw [e0]; exact Ar9.1) (State.isArrayOf_alike hZ.alike Ar9.2.1) Ar9.2.2 hin9 hat9 (g := (mkF m 88 #[vr a1, vi 0, vr a2, vi 0, vi 1, vi 0, .unset, .unset] [(.int 0), (.ref a2), (.int p4)])) rfl rfl (hb hby d32_88) _ ?_
    refine XS.icmpYes X0.here hx rfl (pc0 := 89) (pc' := 95) rfl (hb hby d32_89) rfl (teq (hc10 : p4 = (45 : Int32))).1 (by decide) (by decide) ?_
    refine XS.iinc X0.here hx rfl (hb hby d32_95) rfl (l' := #[vr a1, vi 0, vr a2, vi 0, vi 1, vi 1, .unset, .unset]) rfl ?_
    refine XS.goto X0.here hx rfl (pc0 := 98) (pc' := 70) rfl (hb hby d32_98) (by decide) (by decide) ?_
    refine XS.iload X0.here hx rfl (hb hby d32_70) rfl ?_
    refine XS.iload X0.here hx rfl (hb hby d32_72) rfl ?_
    refine XS.icmpYes X0.here hx rfl (pc0 := 74) (pc' := 101) rfl (hb hby d32_74) rfl (flt ((by decide) : ¬ ((1 : Int32) < (1 : Int32)))).2.1 (by decide) (by decide) ?_
    refine XS.iconst X0.here hx rfl (hb hby d32_101) ?_
    exact retI X0 hx Bd.returns (hb hby d32_102) hr
  · show Qrm32_4 Z a1 a2 k3 p4 k7 h0 n0 _ s₁.heap _
    rw [e0]
    exact ⟨rfl, N0, rfl⟩
def Qrm29_4 (Z : State) (a1 : Addr) (a2 : Addr) (a4 : Addr) (k6 : ClassId) (p7 : Int32) (p9 : Int32) (a15 : Addr) (k17 : ClassId) (h0 : Heap) (n0 : Nat) (v : Option Value) (h : Heap) (L : List Loc) : Prop := v = some (.int 1) ∧ Fr n0 L ∧ h = h0
set_option maxRecDepth 65536 in
set_option maxHeartbeats 40000000 in
theorem rm29_4 (l : Launch) (Z : State) (a0 : Array Value) (hw : ∀ d ∈ tables_1, d.before a0 Z = true) (ws : List Jvm.Cond) (a1 : Addr) (a2 : Addr) (a4 : Addr) (k6 : ClassId) (p7 : Int32) (p9 : Int32) (a15 : Addr) (k17 : ClassId) (h0 : Heap) (n0 : Nat) (O0 : Old Z n0 h0) (E_3 : Exa Z h0 a1 "java/lang/String") (F_5 : Fld Z h0 a1 "java/lang/String" "value" "[B" (.ref a4)) (V_8 : Arv Z h0 a4 k6 .byte (1 : Int32) [(.int p7)] (.int 0)) (S_10 : Sta Z Z.heap "java/lang/String" "COMPACT_STRINGS" "Z" (.int p9)) (hc11 : ¬ (p9 = (0 : Int32))) (F_12 : Fld Z h0 a1 "java/lang/String" "coder" "B" (.int 0)) (E_14 : Exa Z h0 a2 "java/lang/String") (F_16 : Fld Z h0 a2 "java/lang/String" "value" "[B" (.ref a15)) (V_18 : Arv Z h0 a15 k17 .byte (1 : Int32) [(.int 45)] (.int (0 : Int32))) (F_19 : Fld Z h0 a2 "java/lang/String" "coder" "B" (.int 0)) (hc26 : p7 = (45 : Int32)) :
    MF l Z h0 (⟨"java/lang/String", "startsWith", "(Ljava/lang/String;I)Z"⟩ : MethodName) jdk_42_method_75_code 8 (some .boolean) ws (⟨2, 0, 0, 27⟩ : Room) #[(.ref a1), (.ref a2), (.int 0)] (Qrm29_4 Z a1 a2 a4 k6 p7 p9 a15 k17 h0 n0) := by
  refine MetFree.of_bodySF (plainFor_of_name pn_4) hisR ?_
  intro p e s m args below meth c s₁ Bd hml0 hP hK
  obtain ⟨rfl, hZ, hh⟩ := hP
  have hx := Bd.exec
  have hby := Bd.bytes
  have hml : c.maxLocals = 8 := hml0
  have hown : s.vm.findClass "java/lang/String" = some m.cls := findClass_of_methodNamed Bd.named
  have X0 : Stand p l e (⟨2, 0, 0, 27⟩ : Room) s m #[(.ref a1), (.ref a2), (.int 0)] below meth c s₁ [] 0 0 := Stand.of_body Bd
  have e0 : s₁.heap = h0 := by rw [← hh, Bd.state]; rfl
  have N0 := Fr.nil n0
  have pre0 : ∀ t, Steps p.tables e below (s₁.setTop (mkF m 0 #[vr a1, vr a2, vi 0, .unset, .unset, .unset, .unset, .unset] [])) t → Steps p.tables e below (s₁.setTop (entryFrame m #[(.ref a1), (.ref a2), (.int 0)] 8)) t := fun t k => castTop (ef_29_RRI m a1 a2 (0 : Int32)) k
  obtain ⟨_, T13, L13, X13, hQ13, st13⟩ := cV X0 hx hZ hown (W hw 168 rfl) (W hw 169 rfl) (notFace_of_selects (args := #[]) (mvT hZ (W hw 171 rfl))) (W hw 171 rfl) (W hw 170 rfl) (W hw 172 rfl) (W hw 2 rfl) (by decide) (rm30_3 l Z a0 hw [] a1 a4 k6 p7 p9 h0 n0 O0 F_5 V_8 E_3 S_10 hc11 F_12) e0 E_3 #[vr a1, vr a2, vi 0, .unset, .unset, .unset, .unset, .unset] [(.int 0)] (by rw [hml]; rfl) (hb hby d29_6) pd_23 rfl (W := 1) (Nat.le_of_eq rfl) (by decide) (by decide) (by decide) (by decide)
  obtain ⟨rfl, Nq13, e13⟩ := hQ13
  have N13 := Fr.app N0 Nq13
  obtain ⟨_, T20, L20, X20, hQ20, st20⟩ := cV X13 hx hZ hown (W hw 168 rfl) (W hw 169 rfl) (notFace_of_selects (args := #[]) (mvT hZ (W hw 171 rfl))) (W hw 171 rfl) (W hw 170 rfl) (W hw 172 rfl) (W hw 2 rfl) (by decide) (rm30_1 l Z a0 hw [] a2 a15 k17 p9 h0 n0 O0 F_16 V_18 E_14 S_10 hc11 F_19) e13 E_14 #[vr a1, vr a2, vi 0, .unset, .unset, .unset, .unset, .unset] [(.int 1), (.int 0)] (by rw [hml]; rfl) (hb hby d29_10) pd_23 rfl (W := 2) (Nat.le_of_eq rfl) (by decide) (by decide) (by decide) (by decide)
  obtain ⟨rfl, Nq20, e20⟩ := hQ20
  have N20 := Fr.app N13 Nq20
  obtain ⟨T21, X21, e21, st21⟩ := getF X20 hx hZ hown (host := "") (Or.inl (W hw 28 rfl)) Via.refl e20 F_5 (g := (mkF m 20 #[vr a1, vr a2, vi 0, .unset, .unset, .unset, .unset, .unset] [(.ref a1)])) rfl rfl (hb hby d29_20)
  obtain ⟨T22, X22, e22, st22⟩ := getF X21 hx hZ hown (host := "") (Or.inl (W hw 28 rfl)) Via.refl e21 F_16 (g := (mkF m 25 #[vr a1, vr a2, vi 0, vr a4, .unset, .unset, .unset, .unset] [(.ref a2)])) rfl rfl (hb hby d29_25)
  obtain ⟨cl23, Ar23, q23, S23, M23, Hs23, G23⟩ := id V_18
  obtain ⟨_, T24, L24, X24, hQ24, st24⟩ := cV X22 hx hZ hown (W hw 173 rfl) (W hw 174 rfl) (notFace_of_selects (args := #[]) (mvT hZ (W hw 176 rfl))) (W hw 176 rfl) (W hw 175 rfl) (W hw 177 rfl) (W hw 2 rfl) (by decide) (rm31 l Z a0 hw [] a1 p9 h0 n0 O0 S_10 hc11 F_12) e22 E_3 #[vr a1, vr a2, vi 0, vr a4, vr a15, vi 0, vi 1, .unset] [] (by rw [hml]; rfl) (hb hby d29_39) pd_32 rfl (W := 0) (Nat.le_of_eq rfl) (by decide) (by decide) (by decide) (by decide)
  obtain ⟨rfl, Nq24, e24⟩ := hQ24
  have N24 := Fr.app N20 Nq24
  obtain ⟨_, T25, L25, X25, hQ25, st25⟩ := cV X24 hx hZ hown (W hw 173 rfl) (W hw 174 rfl) (notFace_of_selects (args := #[]) (mvT hZ (W hw 176 rfl))) (W hw 176 rfl) (W hw 175 rfl) (W hw 177 rfl) (W hw 2 rfl) (by decide) (rm31 l Z a0 hw [] a2 p9 h0 n0 O0 S_10 hc11 F_19) e24 E_14 #[vr a1, vr a2, vi 0, vr a4, vr a15, vi 0, vi 1, vi 0] [(.int 0)] (by rw [hml]; rfl) (hb hby d29_47) pd_32 rfl (W := 1) (Nat.le_of_eq rfl) (by decide) (by decide) (by decide) (by decide)
  obtain ⟨rfl, Nq25, e25⟩ := hQ25
  have N25 := Fr.app N24 Nq25
  obtain ⟨_, T27, L27, X27, hQ27, st27⟩ := cS X25 hx hZ hown (W hw 178 rfl) (W hw 179 rfl) (W hw 180 rfl) (W hw 181 rfl) (by decide) (rm32_4 l Z a0 hw [] a4 a15 k6 p7 k17 h0 n0 O0 V_8 V_18 hc26) e25 #[vr a1, vr a2, vi 0, vr a4, vr a15, vi 0, vi 1, vi 0] [] (by rw [hml]; rfl) (hb hby d29_70) pd_34 rfl (W := 0) (Nat.le_of_eq rfl) (by decide) (by decide) (by decide) (by decide)
  obtain ⟨rfl, Nq27, e27⟩ := hQ27
  have N27 := Fr.app N25 Nq27
  obtain ⟨fs, hr, hrun, hended, hW, hsame⟩ := X27.leave (v := some (.int 1)) (fun h => by rw [Bd.returns] at h; cases h)
  refine ⟨_, _, pre0 _ ?_, hrun, hended, _, _, rfl, ?_, ⟨_, rfl⟩, hW, hsame.mono (by decide) (by decide)⟩
  · show Steps p.tables e below (s₁.setTop (mkF m 0 #[vr a1, vr a2, vi 0, .unset, .unset, .unset, .unset, .unset] [])) _
    refine XS.iloadN X0.here hx rfl (hb hby d29_0) rfl ?_
    refine XS.ifNo X0.here hx rfl (hb hby d29_1) rfl ((if0 _ _).trans (flt ((by decide) : ¬ ((0 : Int32) < (0 : Int32)))).1) ?_
    refine XS.iloadN X0.here hx rfl (hb hby d29_4) rfl ?_
    refine XS.aloadN X0.here hx rfl (hb hby d29_5) rfl rfl ?_
    refine st13 _ ?_
    refine XS.aloadN X13.here hx rfl (hb hby d29_9) rfl rfl ?_
    refine st20 _ ?_
    refine XS.isub X20.here hx rfl (hb hby d29_13) rfl ?_
    show Steps p.tables e below (T20.setTop (mkF m 14 #[vr a1, vr a2, vi 0, .unset, .unset, .unset, .unset, .unset] [(.int ((1 : Int32) - (1 : Int32))), (.int 0)])) _
    rw [show ((1 : Int32) - (1 : Int32)) = (0 : Int32) from by decide]
    refine XS.icmpYes X20.here hx rfl (pc0 := 14) (pc' := 19) rfl (hb hby d29_14) rfl (flt ((by decide) : ¬ ((0 : Int32) < (0 : Int32)))).2.2.2 (by decide) (by decide) ?_
    refine XS.aloadN X20.here hx rfl (hb hby d29_19) rfl rfl ?_
    refine st21 _ ?_
    refine XS.astoreN X21.here hx rfl (hb hby d29_23) rfl rfl (l' := #[vr a1, vr a2, vi 0, vr a4, .unset, .unset, .unset, .unset]) rfl ?_
    refine XS.aloadN X21.here hx rfl (hb hby d29_24) rfl rfl ?_
    refine st22 _ ?_
    refine XS.astore X22.here hx rfl (hb hby d29_28) rfl rfl (l' := #[vr a1, vr a2, vi 0, vr a4, vr a15, .unset, .unset, .unset]) rfl ?_
    refine XS.iconst X22.here hx rfl (hb hby d29_30) ?_
    refine XS.istore X22.here hx rfl (hb hby d29_31) rfl (l' := #[vr a1, vr a2, vi 0, vr a4, vr a15, vi 0, .unset, .unset]) rfl ?_
    show Steps p.tables e below (T22.setTop (mkF m 33 #[vr a1, vr a2, vi 0, vr a4, vr a15, vi 0, .unset, .unset] [])) _
    refine XS.aload X22.here hx rfl (hb hby d29_33) rfl rfl ?_
    refine X22.arraylength hx (by rw [e22]; exact Ar23.1) (State.isArrayOf_alike hZ.alike Ar23.2.1) (g := (mkF m 35 #[vr a1, vr a2, vi 0, vr a4, vr a15, vi 0, .unset, .unset] [(.ref a15)])) rfl rfl (hb hby d29_35) _ ?_
    rw [len_of S23 M23]
    refine XS.istore X22.here hx rfl (hb hby d29_36) rfl (l' := #[vr a1, vr a2, vi 0, vr a4, vr a15, vi 0, vi 1, .unset]) rfl ?_
    refine XS.aloadN X22.here hx rfl (hb hby d29_38) rfl rfl ?_
    refine st24 _ ?_
    refine XS.istore X24.here hx rfl (hb hby d29_42) rfl (l' := #[vr a1, vr a2, vi 0, vr a4, vr a15, vi 0, vi 1, vi 0]) rfl ?_
    refine XS.iload X24.here hx rfl (hb hby d29_44) rfl ?_
    refine XS.aloadN X24.here hx rfl (hb hby d29_46) rfl rfl ?_
    refine st25 _ ?_
    show Steps p.tables e below (T25.setTop (mkF m 50 #[vr a1, vr a2, vi 0, vr a4, vr a15, vi 0, vi 1, vi 0] [(.int 0), (.int 0)])) _
    refine XS.icmpNo X25.here hx rfl (hb hby d29_50) rfl (teq ((by decide) : (0 : Int32) = (0 : Int32))).2 ?_
    refine XS.iload X25.here hx rfl (hb hby d29_53) rfl ?_
    refine XS.iconst X25.here hx rfl (hb hby d29_55) ?_
    refine XS.icmpYes X25.here hx rfl (pc0 := 56) (pc' := 63) rfl (hb hby d29_56) rfl (feq ((by decide) : ¬ ((0 : Int32) = (1 : Int32)))).2 (by decide) (by decide) ?_
    refine XS.aloadN X25.here hx rfl (hb hby d29_63) rfl rfl ?_
    refine XS.iloadN X25.here hx rfl (hb hby d29_64) rfl ?_
    refine XS.aload X25.here hx rfl (hb hby d29_65) rfl rfl ?_
    refine XS.iconst X25.here hx rfl (hb hby d29_67) ?_
    refine XS.iload X25.here hx rfl (hb hby d29_68) rfl ?_
    refine st27 _ ?_
    show Steps p.tables e below (T27.setTop (mkF m 73 #[vr a1, vr a2, vi 0, vr a4, vr a15, vi 0, vi 1, vi 0] [(.int (-1))])) _
    refine XS.ifNo X27.here hx rfl (hb hby d29_73) rfl ((if0 _ _).trans (tlt ((by decide) : (-1 : Int32) < (0 : Int32))).2.1) ?_
    refine XS.iconst X27.here hx rfl (hb hby d29_76) ?_
    refine XS.goto X27.here hx rfl (pc0 := 77) (pc' := 81) rfl (hb hby d29_77) (by decide) (by decide) ?_
    exact retN X27 hx (t := .boolean) Bd.returns (by simp) (hb hby d29_81) hr
  · show Qrm29_4 Z a1 a2 a4 k6 p7 p9 a15 k17 h0 n0 _ T27.heap _
    rw [e27]
    exact ⟨rfl, N27, rfl⟩
def Qrm28_4 (Z : State) (a1 : Addr) (a2 : Addr) (a4 : Addr) (k6 : ClassId) (p7 : Int32) (p9 : Int32) (a14 : Addr) (k16 : ClassId) (h0 : Heap) (n0 : Nat) (v : Option Value) (h : Heap) (L : List Loc) : Prop := v = some (.int 1) ∧ Fr n0 L ∧ h = h0
set_option maxRecDepth 65536 in
set_option maxHeartbeats 40000000 in
theorem rm28_4 (l : Launch) (Z : State) (a0 : Array Value) (hw : ∀ d ∈ tables_1, d.before a0 Z = true) (ws : List Jvm.Cond) (a1 : Addr) (a2 : Addr) (a4 : Addr) (k6 : ClassId) (p7 : Int32) (p9 : Int32) (a14 : Addr) (k16 : ClassId) (h0 : Heap) (n0 : Nat) (O0 : Old Z n0 h0) (E_3 : Exa Z h0 a1 "java/lang/String") (F_5 : Fld Z h0 a1 "java/lang/String" "value" "[B" (.ref a4)) (V_8 : Arv Z h0 a4 k6 .byte (1 : Int32) [(.int p7)] (.int 0)) (S_10 : Sta Z Z.heap "java/lang/String" "COMPACT_STRINGS" "Z" (.int p9)) (hc11 : ¬ (p9 = (0 : Int32))) (F_12 : Fld Z h0 a1 "java/lang/String" "coder" "B" (.int 0)) (E_13 : Exa Z h0 a2 "java/lang/String") (F_15 : Fld Z h0 a2 "java/lang/String" "value" "[B" (.ref a14)) (V_17 : Arv Z h0 a14 k16 .byte (1 : Int32) [(.int 45)] (.int (0 : Int32))) (F_18 : Fld Z h0 a2 "java/lang/String" "coder" "B" (.int 0)) (hc19 : p7 = (45 : Int32)) :
    MF l Z h0 (⟨"java/lang/String", "startsWith", "(Ljava/lang/String;)Z"⟩ : MethodName) jdk_42_method_76_code 2 (some .boolean) ws (⟨3, 0, 0, 46⟩ : Room) #[(.ref a1), (.ref a2)] (Qrm28_4 Z a1 a2 a4 k6 p7 p9 a14 k16 h0 n0) := by
  refine MetFree.of_bodySF (plainFor_of_name pn_4) hisR ?_
  intro p e s m args below meth c s₁ Bd hml0 hP hK
  obtain ⟨rfl, hZ, hh⟩ := hP
  have hx := Bd.exec
  have hby := Bd.bytes
  have hml : c.maxLocals = 2 := hml0
  have hown : s.vm.findClass "java/lang/String" = some m.cls := findClass_of_methodNamed Bd.named
  have X0 : Stand p l e (⟨3, 0, 0, 46⟩ : Room) s m #[(.ref a1), (.ref a2)] below meth c s₁ [] 0 0 := Stand.of_body Bd
  have e0 : s₁.heap = h0 := by rw [← hh, Bd.state]; rfl
  have N0 := Fr.nil n0
  have pre0 : ∀ t, Steps p.tables e below (s₁.setTop (mkF m 0 #[vr a1, vr a2] [])) t → Steps p.tables e below (s₁.setTop (entryFrame m #[(.ref a1), (.ref a2)] 2)) t := fun t k => castTop (ef_28_RR m a1 a2) k
  obtain ⟨_, T20, L20, X20, hQ20, st20⟩ := cV X0 hx hZ hown (W hw 163 rfl) (W hw 164 rfl) (notFace_of_selects (args := #[]) (mvT hZ (W hw 166 rfl))) (W hw 166 rfl) (W hw 165 rfl) (W hw 167 rfl) (W hw 2 rfl) (by decide) (rm29_4 l Z a0 hw [] a1 a2 a4 k6 p7 p9 a14 k16 h0 n0 O0 E_3 F_5 V_8 S_10 hc11 F_12 E_13 F_15 V_17 F_18 hc19) e0 E_3 #[vr a1, vr a2] [] (by rw [hml]; rfl) (hb hby d28_3) pd_35 rfl (W := 0) (Nat.le_of_eq rfl) (by decide) (by decide) (by decide) (by decide)
  obtain ⟨rfl, Nq20, e20⟩ := hQ20
  have N20 := Fr.app N0 Nq20
  obtain ⟨fs, hr, hrun, hended, hW, hsame⟩ := X20.leave (v := some (.int 1)) (fun h => by rw [Bd.returns] at h; cases h)
  refine ⟨_, _, pre0 _ ?_, hrun, hended, _, _, rfl, ?_, ⟨_, rfl⟩, hW, hsame.mono (by decide) (by decide)⟩
  · show Steps p.tables e below (s₁.setTop (mkF m 0 #[vr a1, vr a2] [])) _
    refine XS.aloadN X0.here hx rfl (hb hby d28_0) rfl rfl ?_
    refine XS.aloadN X0.here hx rfl (hb hby d28_1) rfl rfl ?_
    refine XS.iconst X0.here hx rfl (hb hby d28_2) ?_
    refine st20 _ ?_
    exact retN X20 hx (t := .boolean) Bd.returns (by simp) (hb hby d28_6) hr
  · show Qrm28_4 Z a1 a2 a4 k6 p7 p9 a14 k16 h0 n0 _ T20.heap _
    rw [e20]
    exact ⟨rfl, N20, rfl⟩
def Qrm27_6 (Z : State) (a1 : Addr) (a2 : Addr) (k3 : ClassId) (p4 : Int32) (k7 : ClassId) (h0 : Heap) (n0 : Nat) (v : Option Value) (h : Heap) (L : List Loc) : Prop := v = some (.int 1) ∧ Fr n0 L ∧ h = h0
set_option maxRecDepth 65536 in
set_option maxHeartbeats 40000000 in
theorem rm27_6 (l : Launch) (Z : State) (a0 : Array Value) (hw : ∀ d ∈ tables_1, d.before a0 Z = true) (ws : List Jvm.Cond) (a1 : Addr) (a2 : Addr) (k3 : ClassId) (p4 : Int32) (k7 : ClassId) (h0 : Heap) (n0 : Nat) (O0 : Old Z n0 h0) (V_5 : Arv Z h0 a1 k3 .byte (1 : Int32) [(.int p4)] (.int 0)) (V_8 : Arv Z h0 a2 k7 .byte (1 : Int32) [(.int 45)] (.int (0 : Int32))) (hc13 : p4 = (45 : Int32)) :
    MF l Z h0 (⟨"java/lang/StringLatin1", "equals", "([B[B)Z"⟩ : MethodName) jdk_43_method_13_code 3 (some .boolean) ws (⟨0, 0, 0, 0⟩ : Room) #[(.ref a1), (.ref a2)] (Qrm27_6 Z a1 a2 k3 p4 k7 h0 n0) := by
  refine MetFree.of_bodySF (plainFor_of_name pn_7) hisR ?_
  intro p e s m args below meth c s₁ Bd hml0 hP hK
  obtain ⟨rfl, hZ, hh⟩ := hP
  have hx := Bd.exec
  have hby := Bd.bytes
  have X0 : Stand p l e (⟨0, 0, 0, 0⟩ : Room) s m #[(.ref a1), (.ref a2)] below meth c s₁ [] 0 0 := Stand.of_body Bd
  have e0 : s₁.heap = h0 := by rw [← hh, Bd.state]; rfl
  have N0 := Fr.nil n0
  have pre0 : ∀ t, Steps p.tables e below (s₁.setTop (mkF m 0 #[vr a1, vr a2, .unset] [])) t → Steps p.tables e below (s₁.setTop (entryFrame m #[(.ref a1), (.ref a2)] 3)) t := fun t k => castTop (ef_27_RR m a1 a2) k
  obtain ⟨cl6, Ar6, q6, S6, M6, Hs6, G6⟩ := id V_5
  obtain ⟨cl9, Ar9, q9, S9, M9, Hs9, G9⟩ := id V_8
  obtain ⟨cl10, Ar10, q10, S10, M10, Hs10, G10⟩ := id V_5
  obtain ⟨cl11, Ar11, q11, S11, M11, Hs11, G11⟩ := id V_5
  have hin11 : ¬ ((0 : Int32) < 0 ∨ cl11.slots.size ≤ ((0 : Int32)).toNatClampNeg) := inb_of S11 ⟨by decide, by decide⟩
  have hat11 : cl11.slots[((0 : Int32)).toNatClampNeg]? = some (.int p4) := Has.at Hs11 hin11 rfl
  obtain ⟨cl12, Ar12, q12, S12, M12, Hs12, G12⟩ := id V_8
  have hin12 : ¬ ((0 : Int32) < 0 ∨ cl12.slots.size ≤ ((0 : Int32)).toNatClampNeg) := inb_of S12 ⟨by decide, by decide⟩
  have hat12 : cl12.slots[((0 : Int32)).toNatClampNeg]? = some (.int 45) := Has.at Hs12 hin12 rfl
  obtain ⟨cl14, Ar14, q14, S14, M14, Hs14, G14⟩ := id V_5
  obtain ⟨fs, hr, hrun, hended, hW, hsame⟩ := X0.leave (v := some (.int 1)) (fun h => by rw [Bd.returns] at h; cases h)
  refine ⟨_, _, pre0 _ ?_, hrun, hended, _, _, rfl, ?_, ⟨_, rfl⟩, hW, hsame.mono (by decide) (by decide)⟩
  · show Steps p.tables e below (s₁.setTop (mkF m 0 #[vr a1, vr a2, .unset] [])) _
    refine XS.aloadN X0.here hx rfl (hb hby d27_0) rfl rfl ?_
    refine X0.arraylength hx (by rw [e0]; exact Ar6.1) (State.isArrayOf_alike hZ.alike Ar6.2.1) (g := (mkF m 1 #[vr a1, vr a2, .unset] [(.ref a1)])) rfl rfl (hb hby d27_1) _ ?_
    rw [len_of S6 M6]
    refine XS.aloadN X0.here hx rfl (hb hby d27_2) rfl rfl ?_
    refine X0.arraylength hx (by rw [e0]; exact Ar9.1) (State.isArrayOf_alike hZ.alike Ar9.2.1) (g := (mkF m 3 #[vr a1, vr a2, .unset] [(.ref a2), (.int 1)])) rfl rfl (hb hby d27_3) _ ?_
    rw [len_of S9 M9]
    refine XS.icmpNo X0.here hx rfl (hb hby d27_4) rfl (teq ((by decide) : (1 : Int32) = (1 : Int32))).2 ?_
    refine XS.iconst X0.here hx rfl (hb hby d27_7) ?_
    refine XS.istoreN X0.here hx rfl (hb hby d27_8) rfl (l' := #[vr a1, vr a2, vi 0]) rfl ?_
    refine XS.iloadN X0.here hx rfl (hb hby d27_9) rfl ?_
    show Steps p.tables e below (s₁.setTop (mkF m 10 #[vr a1, vr a2, vi 0] [(.int 0)])) _
    refine XS.aloadN X0.here hx rfl (hb hby d27_10) rfl rfl ?_
    refine X0.arraylength hx (by rw [e0]; exact Ar10.1) (State.isArrayOf_alike hZ.alike Ar10.2.1) (g := (mkF m 11 #[vr a1, vr a2, vi 0] [(.ref a1), (.int 0)])) rfl rfl (hb hby d27_11) _ ?_
    rw [len_of S10 M10]
    refine XS.icmpNo X0.here hx rfl (hb hby d27_12) rfl (tlt ((by decide) : (0 : Int32) < (1 : Int32))).2.1 ?_
    refine XS.aloadN X0.here hx rfl (hb hby d27_15) rfl rfl ?_
    refine XS.iloadN X0.here hx rfl (hb hby d27_16) rfl ?_
    refine X0.baloadBytes hx (j := (0 : Int32)) (v := (.int p4)) (by rw [e0]; exact Ar11.1) (State.isArrayOf_alike hZ.alike Ar11.2.1) Ar11.2.2 hin11 hat11 (g := (mkF m 17 #[vr a1, vr a2, vi 0] [(.int 0), (.ref a1)])) rfl rfl (hb hby d27_17) _ ?_
    refine XS.aloadN X0.here hx rfl (hb hby d27_18) rfl rfl ?_
    refine XS.iloadN X0.here hx rfl (hb hby d27_19) rfl ?_
    refine X0.baloadBytes hx (j := (0 : Int32)) (v := (.int 45)) (by rw [e0]; exact Ar12.1) (State.isArrayOf_alike hZ.alike Ar12.2.1) Ar12.2.2 hin12 hat12 (g := (mkF m 20 #[vr a1, vr a2, vi 0] [(.int 0), (.ref a2), (.int p4)])) rfl rfl (hb hby d27_20) _ ?_
    show Steps p.tables e below (s₁.setTop (mkF m 21 #[vr a1, vr a2, vi 0] [(.int 45), (.int p4)])) _
    refine XS.icmpYes X0.here hx rfl (pc0 := 21) (pc' := 26) rfl (hb hby d27_21) rfl (teq (hc13 : p4 = (45 : Int32))).1 (by decide) (by decide) ?_
    refine XS.iinc X0.here hx rfl (hb hby d27_26) rfl (l' := #[vr a1, vr a2, vi 1]) rfl ?_
    refine XS.goto X0.here hx rfl (pc0 := 29) (pc' := 9) rfl (hb hby d27_29) (by decide) (by decide) ?_
    refine XS.iloadN X0.here hx rfl (hb hby d27_9) rfl ?_
    refine XS.aloadN X0.here hx rfl (hb hby d27_10) rfl rfl ?_
    refine X0.arraylength hx (by rw [e0]; exact Ar14.1) (State.isArrayOf_alike hZ.alike Ar14.2.1) (g := (mkF m 11 #[vr a1, vr a2, vi 1] [(.ref a1), (.int 1)])) rfl rfl (hb hby d27_11) _ ?_
    rw [len_of S14 M14]
    refine XS.icmpYes X0.here hx rfl (pc0 := 12) (pc' := 32) rfl (hb hby d27_12) rfl (flt ((by decide) : ¬ ((1 : Int32) < (1 : Int32)))).2.1 (by decide) (by decide) ?_
    refine XS.iconst X0.here hx rfl (hb hby d27_32) ?_
    exact retN X0 hx (t := .boolean) Bd.returns (by simp) (hb hby d27_33) hr
  · show Qrm27_6 Z a1 a2 k3 p4 k7 h0 n0 _ s₁.heap _
    rw [e0]
    exact ⟨rfl, N0, rfl⟩
def Qrm26_7 (Z : State) (a1 : Addr) (a2 : Addr) (p6 : Int32) (a14 : Addr) (a17 : Addr) (k20 : ClassId) (p21 : Int32) (k23 : ClassId) (h0 : Heap) (n0 : Nat) (v : Option Value) (h : Heap) (L : List Loc) : Prop := v = some (.int 1) ∧ Fr n0 L ∧ h = h0
set_option maxRecDepth 65536 in
set_option maxHeartbeats 40000000 in
theorem rm26_7 (l : Launch) (Z : State) (a0 : Array Value) (hw : ∀ d ∈ tables_1, d.before a0 Z = true) (ws : List Jvm.Cond) (a1 : Addr) (a2 : Addr) (p6 : Int32) (a14 : Addr) (a17 : Addr) (k20 : ClassId) (p21 : Int32) (k23 : ClassId) (h0 : Heap) (n0 : Nat) (O0 : Old Z n0 h0) (ne_a1_a2 : a1 ≠ a2) (E_3 : Exa Z h0 a2 "java/lang/String") (S_7 : Sta Z Z.heap "java/lang/String" "COMPACT_STRINGS" "Z" (.int p6)) (hc9 : ¬ (p6 = (0 : Int32))) (F_10 : Fld Z h0 a1 "java/lang/String" "coder" "B" (.int 0)) (F_12 : Fld Z h0 a2 "java/lang/String" "coder" "B" (.int 0)) (F_15 : Fld Z h0 a1 "java/lang/String" "value" "[B" (.ref a14)) (F_18 : Fld Z h0 a2 "java/lang/String" "value" "[B" (.ref a17)) (V_22 : Arv Z h0 a14 k20 .byte (1 : Int32) [(.int p21)] (.int 0)) (V_24 : Arv Z h0 a17 k23 .byte (1 : Int32) [(.int 45)] (.int (0 : Int32))) (hc25 : p21 = (45 : Int32)) :
    MF l Z h0 (⟨"java/lang/String", "equals", "(Ljava/lang/Object;)Z"⟩ : MethodName) jdk_42_method_66_code 3 (some .boolean) ws (⟨1, 0, 0, 14⟩ : Room) #[(.ref a1), (.ref a2)] (Qrm26_7 Z a1 a2 p6 a14 a17 k20 p21 k23 h0 n0) := by
  refine MetFree.of_bodySF (plainFor_of_name pn_4) hisR ?_
  intro p e s m args below meth c s₁ Bd hml0 hP hK
  obtain ⟨rfl, hZ, hh⟩ := hP
  have hx := Bd.exec
  have hby := Bd.bytes
  have hml : c.maxLocals = 3 := hml0
  have hown : s.vm.findClass "java/lang/String" = some m.cls := findClass_of_methodNamed Bd.named
  have X0 : Stand p l e (⟨1, 0, 0, 14⟩ : Room) s m #[(.ref a1), (.ref a2)] below meth c s₁ [] 0 0 := Stand.of_body Bd
  have e0 : s₁.heap = h0 := by rw [← hh, Bd.state]; rfl
  have N0 := Fr.nil n0
  have pre0 : ∀ t, Steps p.tables e below (s₁.setTop (mkF m 0 #[vr a1, vr a2, .unset] [])) t → Steps p.tables e below (s₁.setTop (entryFrame m #[(.ref a1), (.ref a2)] 3)) t := fun t k => castTop (ef_26_RR m a1 a2) k
  obtain ⟨T4, X4, e4, st4⟩ := instY X0 hx hZ hown (W hw 37 rfl) e0 (Ins.self E_3) (g := (mkF m 8 #[vr a1, vr a2, .unset] [(.ref a2)])) rfl rfl (hb hby d26_8)
  obtain ⟨T5, X5, e5, st5⟩ := castY X4 hx hZ hown (W hw 37 rfl) e4 (Ins.self E_3) (g := (mkF m 15 #[vr a1, vr a2, .unset] [(.ref a2)])) rfl rfl (hb hby d26_15)
  obtain ⟨T8, X8, e8, st8⟩ := getS2 X5 hx hZ hown (host := "") (Or.inl (W hw 14 rfl)) Via.refl e5 (S_7.ext O0.2) (g := (mkF m 19 #[vr a1, vr a2, vr a2] [])) rfl (hb hby d26_19)
  obtain ⟨T11, X11, e11, st11⟩ := getF X8 hx hZ hown (host := "") (Or.inl (W hw 26 rfl)) Via.refl e8 F_10 (g := (mkF m 26 #[vr a1, vr a2, vr a2] [(.ref a1)])) rfl rfl (hb hby d26_26)
  obtain ⟨T13, X13, e13, st13⟩ := getF X11 hx hZ hown (host := "") (Or.inl (W hw 26 rfl)) Via.refl e11 F_12 (g := (mkF m 30 #[vr a1, vr a2, vr a2] [(.ref a2), (.int 0)])) rfl rfl (hb hby d26_30)
  obtain ⟨T16, X16, e16, st16⟩ := getF X13 hx hZ hown (host := "") (Or.inl (W hw 28 rfl)) Via.refl e13 F_15 (g := (mkF m 37 #[vr a1, vr a2, vr a2] [(.ref a1)])) rfl rfl (hb hby d26_37)
  obtain ⟨T19, X19, e19, st19⟩ := getF X16 hx hZ hown (host := "") (Or.inl (W hw 28 rfl)) Via.refl e16 F_18 (g := (mkF m 41 #[vr a1, vr a2, vr a2] [(.ref a2), (.ref a14)])) rfl rfl (hb hby d26_41)
  obtain ⟨_, T26, L26, X26, hQ26, st26⟩ := cS X19 hx hZ hown (W hw 154 rfl) (W hw 155 rfl) (W hw 35 rfl) (W hw 156 rfl) (by decide) (rm27_6 l Z a0 hw [] a14 a17 k20 p21 k23 h0 n0 O0 V_22 V_24 hc25) e19 #[vr a1, vr a2, vr a2] [] (by rw [hml]; rfl) (hb hby d26_44) pd_28 rfl (W := 0) (Nat.le_of_eq rfl) (by decide) (by decide) (by decide) (by decide)
  obtain ⟨rfl, Nq26, e26⟩ := hQ26
  have N26 := Fr.app N0 Nq26
  obtain ⟨fs, hr, hrun, hended, hW, hsame⟩ := X26.leave (v := some (.int 1)) (fun h => by rw [Bd.returns] at h; cases h)
  refine ⟨_, _, pre0 _ ?_, hrun, hended, _, _, rfl, ?_, ⟨_, rfl⟩, hW, hsame.mono (by decide) (by decide)⟩
  · show Steps p.tables e below (s₁.setTop (mkF m 0 #[vr a1, vr a2, .unset] [])) _
    refine XS.aloadN X0.here hx rfl (hb hby d26_0) rfl rfl ?_
    refine XS.aloadN X0.here hx rfl (hb hby d26_1) rfl rfl ?_
    refine Jvm.RoadKit.acmp (g := (mkF m 2 #[vr a1, vr a2, .unset] [(.ref a2), (.ref a1)])) X0 hx rfl rfl rfl (pc0 := 2) (pc' := 7) (same := false) rfl (hb hby d26_2) rfl (decide_eq_false fun q => ne_a1_a2 (Value.ref.inj q)) (by decide) (by decide) ?_
    refine XS.aloadN X0.here hx rfl (hb hby d26_7) rfl rfl ?_
    refine st4 _ ?_
    refine XS.ifNo X4.here hx rfl (hb hby d26_11) rfl ((if0 _ _).trans (feq ((by decide) : ¬ ((1 : Int32) = (0 : Int32)))).1) ?_
    refine XS.aloadN X4.here hx rfl (hb hby d26_14) rfl rfl ?_
    refine st5 _ ?_
    refine XS.astoreN X5.here hx rfl (hb hby d26_18) rfl rfl (l' := #[vr a1, vr a2, vr a2]) rfl ?_
    refine st8 _ ?_
    show Steps p.tables e below (T8.setTop (mkF m 22 #[vr a1, vr a2, vr a2] [(.int p6)])) _
    refine XS.ifNo X8.here hx rfl (hb hby d26_22) rfl ((if0 _ _).trans (feq (hc9 : ¬ (p6 = (0 : Int32)))).1) ?_
    refine XS.aloadN X8.here hx rfl (hb hby d26_25) rfl rfl ?_
    refine st11 _ ?_
    refine XS.aloadN X11.here hx rfl (hb hby d26_29) rfl rfl ?_
    refine st13 _ ?_
    refine XS.icmpNo X13.here hx rfl (hb hby d26_33) rfl (teq ((by decide) : (0 : Int32) = (0 : Int32))).2 ?_
    refine XS.aloadN X13.here hx rfl (hb hby d26_36) rfl rfl ?_
    refine st16 _ ?_
    refine XS.aloadN X16.here hx rfl (hb hby d26_40) rfl rfl ?_
    refine st19 _ ?_
    show Steps p.tables e below (T19.setTop (mkF m 44 #[vr a1, vr a2, vr a2] [(.ref a17), (.ref a14)])) _
    refine st26 _ ?_
    refine XS.ifNo X26.here hx rfl (hb hby d26_47) rfl ((if0 _ _).trans (feq ((by decide) : ¬ ((1 : Int32) = (0 : Int32)))).1) ?_
    refine XS.iconst X26.here hx rfl (hb hby d26_50) ?_
    refine XS.goto X26.here hx rfl (pc0 := 51) (pc' := 55) rfl (hb hby d26_51) (by decide) (by decide) ?_
    exact retN X26 hx (t := .boolean) Bd.returns (by simp) (hb hby d26_55) hr
  · show Qrm26_7 Z a1 a2 p6 a14 a17 k20 p21 k23 h0 n0 _ T26.heap _
    rw [e26]
    exact ⟨rfl, N26, rfl⟩
theorem d20_74 : decode prog_1_method_2_code 74 = .ok (.aconst_null, 1) := by decide +kernel
theorem d20_75 : decode prog_1_method_2_code 75 = .ok (.areturn, 1) := by decide +kernel
def Qrm20_6 (Z : State) (a1 : Addr) (a4 : Addr) (a12 : Addr) (k14 : ClassId) (a15 : Addr) (p21 : Int32) (a25 : Addr) (k27 : ClassId) (p28 : Int32) (h0 : Heap) (n0 : Nat) (v : Option Value) (h : Heap) (L : List Loc) : Prop := v = some .null ∧ Fr n0 L ∧ Keep h0 h []
set_option maxRecDepth 65536 in
set_option maxHeartbeats 40000000 in
theorem rm20_6 (l : Launch) (Z : State) (a0 : Array Value) (hw : ∀ d ∈ tables_1, d.before a0 Z = true) (ws : List Jvm.Cond) (a1 : Addr) (a4 : Addr) (a12 : Addr) (k14 : ClassId) (a15 : Addr) (p21 : Int32) (a25 : Addr) (k27 : ClassId) (p28 : Int32) (h0 : Heap) (n0 : Nat) (O0 : Old Z n0 h0) (F_2 : Fld Z h0 a1 "com/example/runqueue/runqueue/Arguments" "next" "I" (.int 0)) (F_5 : Fld Z h0 a1 "com/example/runqueue/runqueue/Arguments" "args" "Ljava/util/List;" (.ref a4)) (E_7 : Exa Z h0 a4 "java/util/ArrayList") (F_8 : Fld Z h0 a4 "java/util/ArrayList" "size" "I" (.int 1)) (F_13 : Fld Z h0 a4 "java/util/ArrayList" "elementData" "[Ljava/lang/Object;" (.ref a12)) (V_16 : Arv Z h0 a12 k14 (.object "java/lang/Object") (10 : Int32) [(.ref a15)] .null) (E_18 : Exa Z h0 a15 "java/lang/String") (g_a15 : n0 ≤ a15) (S_22 : Sta Z Z.heap "java/lang/String" "COMPACT_STRINGS" "Z" (.int p21)) (hc23 : ¬ (p21 = (0 : Int32))) (F_24 : Fld Z h0 a15 "java/lang/String" "coder" "B" (.int 0)) (F_26 : Fld Z h0 a15 "java/lang/String" "value" "[B" (.ref a25)) (V_29 : Arv Z h0 a25 k27 .byte (1 : Int32) [(.int p28)] (.int 0)) (hc36 : p28 = (45 : Int32)) :
    MetFree l (⟨"com/example/runqueue/runqueue/Arguments", "nextOption", "()Ljava/lang/String;"⟩ : MethodName) (head1 (Jvm.Cond.code (⟨"com/example/runqueue/runqueue/Arguments", "nextOption", "()Ljava/lang/String;"⟩ : MethodName) prog_1_method_2_code 3 (some (.object "java/lang/String")) :: ws) (⟨4, 6, 28, 59⟩ : Room)) (fun a U => a = #[(.ref a1)] ∧ Z.Warmed39 U.vm ∧ U.heap = h0 ∧ own_CH Z own_EL n0 U.vm h0) (fun _ _ _ _ _ => True) (fun _ U o U' => ∃ v L, o = .returned v ∧ Qrm20_6 Z a1 a4 a12 k14 a15 p21 a25 k27 p28 h0 n0 v U'.heap L ∧ ReturnedEndW U o U' L (⟨4, 6, 28, 59⟩ : Room).cells (⟨4, 6, 28, 59⟩ : Room).slots) := by
  refine MetFree.of_bodySF (plainFor_of_name pn_21) hisR ?_
  intro p e s m args below meth c s₁ Bd hml0 hP hK
  obtain ⟨rfl, hZ, hh, hCH⟩ := hP
  have hx := Bd.exec
  have hby := Bd.bytes
  have hml : c.maxLocals = 3 := hml0
  have hown : s.vm.findClass "com/example/runqueue/runqueue/Arguments" = some m.cls := findClass_of_methodNamed Bd.named
  have X0 : Stand p l e (⟨4, 6, 28, 59⟩ : Room) s m #[(.ref a1)] below meth c s₁ [] 0 0 := Stand.of_body Bd
  have e0 : s₁.heap = h0 := by rw [← hh, Bd.state]; rfl
  have N0 := Fr.nil n0
  have pre0 : ∀ t, Steps p.tables e below (s₁.setTop (mkF m 0 #[vr a1, .unset, .unset] [])) t → Steps p.tables e below (s₁.setTop (entryFrame m #[(.ref a1)] 3)) t := fun t k => castTop (ef_20_R m a1) k
  have CS0 : own_CS Z own_EL n0 h0.size s.vm h0 := own_CS.start hCH
  have hS0 : s.Since s.vm 0 := (State.WarmedH.refl s).since 0
  obtain ⟨T3, X3, e3, st3⟩ := getF X0 hx hZ hown (host := "") (Or.inl (W hw 113 rfl)) Via.refl e0 F_2 (g := (mkF m 1 #[vr a1, .unset, .unset] [(.ref a1)])) rfl rfl (hb hby d20_1)
  obtain ⟨T6, X6, e6, st6⟩ := getF X3 hx hZ hown (host := "") (Or.inl (W hw 106 rfl)) Via.refl e3 F_5 (g := (mkF m 5 #[vr a1, .unset, .unset] [(.ref a1), (.int 0)])) rfl rfl (hb hby d20_5)
  obtain ⟨_, T9, L9, X9, hQ9, st9⟩ := cF X6 hx hZ hown (W hw 115 rfl) (W hw 116 rfl) (mvT hZ (W hw 117 rfl)) (W hw 118 rfl) (W hw 119 rfl) (W hw 120 rfl) (W hw 121 rfl) (W hw 122 rfl) (W hw 123 rfl) (W hw 46 rfl) (by decide) (rm21 l Z a0 hw [] a4 h0 n0 O0 F_8) e6 E_7 #[vr a1, .unset, .unset] [(.int 0)] (by rw [hml]; rfl) (hb hby d20_8) pd_23 rfl (W := 1) (Nat.le_of_eq rfl) (by decide) (by decide) (by decide) (by decide)
  obtain ⟨rfl, Nq9, e9⟩ := hQ9
  have N9 := Fr.app N0 Nq9
  obtain ⟨T10, X10, e10, st10⟩ := getF X9 hx hZ hown (host := "") (Or.inl (W hw 106 rfl)) Via.refl e9 F_5 (g := (mkF m 19 #[vr a1, .unset, .unset] [(.ref a1)])) rfl rfl (hb hby d20_19)
  obtain ⟨T11, X11, e11, st11⟩ := getF X10 hx hZ hown (host := "") (Or.inl (W hw 113 rfl)) Via.refl e10 F_2 (g := (mkF m 23 #[vr a1, .unset, .unset] [(.ref a1), (.ref a4)])) rfl rfl (hb hby d20_23)
  obtain ⟨_, T17, L17, X17, hQ17, st17⟩ := cF X11 hx hZ hown (W hw 124 rfl) (W hw 125 rfl) (mvT hZ (W hw 126 rfl)) (W hw 127 rfl) (W hw 128 rfl) (W hw 129 rfl) (W hw 130 rfl) (W hw 122 rfl) (W hw 131 rfl) (W hw 46 rfl) (by decide) (rm22 l Z a0 hw [] a4 a12 k14 a15 h0 n0 O0 F_8 E_7 F_13 V_16) e11 E_7 #[vr a1, .unset, .unset] [] (by rw [hml]; rfl) (hb hby d20_26) pd_27 rfl (W := 0) (Nat.le_of_eq rfl) (by decide) (by decide) (by decide) (by decide)
  obtain ⟨rfl, Nq17, e17⟩ := hQ17
  have N17 := Fr.app N9 Nq17
  obtain ⟨T19, X19, e19, st19⟩ := castY X17 hx hZ hown (W hw 145 rfl) e17 (Ins.self E_18) (g := (mkF m 31 #[vr a1, .unset, .unset] [(.ref a15)])) rfl rfl (hb hby d20_31)
  obtain ⟨b20, T20, h20, k20, bb20, kk20, X20, e20, E20, hS20, hk20, hZ20, hown20, La20, Lc20, Lv20, Lb20, -, -, hC20, -, hne20, st20⟩ := ldcCH (s := s) (vm0 := s.vm) X19 hx hZ hown (W hw 146 rfl) (own_wS hw) e19 hS0 (Nat.zero_le _) (own_EW hw) (List.mem_of_getElem? (i := 0) rfl) CS0.1 (vs := [(.int 45), (.int 45)]) (z := (2 : Int32)) own_lt0 (by decide) (by decide) (g := (mkF m 36 #[vr a1, vr a15, .unset] [(.ref a15)])) rfl (hb hby d20_36) (n := 8) (by decide) (by decide) (by decide) (by decide)
  have CS20 := CS0.ldc hC20 (Keep.refl h0 []).1
  have K20 := (Keep.refl h0 []).ext E20
  have O20 := O0.ext E20
  have f30 := (F_24.ext E20)
  have f31 := (F_26.ext E20)
  have f32 := (V_29.ext E20)
  have f34 := (E_18.ext E20)
  obtain ⟨_, T33, L33, X33, hQ33, st33⟩ := cV X20 hx hZ20 hown20 (W hw 149 rfl) (W hw 150 rfl) (notFace_of_selects (args := #[]) (mvT hZ20 (W hw 152 rfl))) (W hw 152 rfl) (W hw 151 rfl) (W hw 153 rfl) (W hw 2 rfl) (by decide) (rm26_6 l Z a0 hw [] a15 b20 p21 a25 bb20 k27 p28 kk20 h20 n0 O20 (hne20 a15 (CS20.2 a15 g_a15 E_18.lt)).1 La20 S_22 hc23 f30 Lc20 f31 Lv20 f32 Lb20) e20 f34 #[vr a1, vr a15, .unset] [] (by rw [hml]; rfl) (hb hby d20_38) pd_20 rfl (W := 0) (Nat.le_of_eq rfl) (by decide) (by decide) (by decide) (by decide)
  obtain ⟨rfl, Nq33, e33⟩ := hQ33
  have N33 := Fr.app N17 Nq33
  obtain ⟨b35, T35, h35, k35, bb35, kk35, X35, e35, E35, hS35, hk35, hZ35, hown35, La35, Lc35, Lv35, Lb35, -, -, hC35, -, hne35, st35⟩ := ldcCH (s := s) (vm0 := T20.vm) X33 hx hZ20 hown20 (W hw 157 rfl) (own_wS hw) e33 hS20 hk20 (own_EW hw) (List.mem_of_getElem? (i := 1) rfl) CS20.1 (vs := [(.int 45)]) (z := (1 : Int32)) own_lt1 (by decide) (by decide) (g := (mkF m 57 #[vr a1, vr a15, .unset] [(.ref a15)])) rfl (hb hby d20_57) (n := 4) (by decide) (by decide) (by decide) (by decide)
  have CS35 := CS20.ldc hC35 K20.1
  have K35 := K20.ext E35
  have O35 := O20.ext E35
  have f37 := (f34.ext E35)
  have f38 := (f31.ext E35)
  have f39 := (f32.ext E35)
  have f40 := (f30.ext E35)
  obtain ⟨_, T41, L41, X41, hQ41, st41⟩ := cV X35 hx hZ35 hown35 (W hw 158 rfl) (W hw 159 rfl) (notFace_of_selects (args := #[]) (mvT hZ35 (W hw 161 rfl))) (W hw 161 rfl) (W hw 160 rfl) (W hw 162 rfl) (W hw 2 rfl) (by decide) (rm28_4 l Z a0 hw [] a15 b35 a25 k27 p28 p21 bb35 kk35 h35 n0 O35 f37 f38 f39 S_22 hc23 f40 La35 Lv35 Lb35 Lc35 hc36) e35 f37 #[vr a1, vr a15, .unset] [] (by rw [hml]; rfl) (hb hby d20_59) pd_36 rfl (W := 0) (Nat.le_of_eq rfl) (by decide) (by decide) (by decide) (by decide)
  obtain ⟨rfl, Nq41, e41⟩ := hQ41
  have N41 := Fr.app N33 Nq41
  obtain ⟨b42, T42, h42, k42, bb42, kk42, X42, e42, E42, hS42, hk42, hZ42, hown42, La42, Lc42, Lv42, Lb42, -, -, hC42, -, hne42, st42⟩ := ldcCH (s := s) (vm0 := T35.vm) X41 hx hZ35 hown35 (W hw 157 rfl) (own_wS hw) e41 hS35 hk35 (own_EW hw) (List.mem_of_getElem? (i := 1) rfl) CS35.1 (vs := [(.int 45)]) (z := (1 : Int32)) own_lt1 (by decide) (by decide) (g := (mkF m 66 #[vr a1, vr a15, .unset] [(.ref a15)])) rfl (hb hby d20_66) (n := 4) (by decide) (by decide) (by decide) (by decide)
  have CS42 := CS35.ldc hC42 K35.1
  have K42 := K35.ext E42
  have O42 := O35.ext E42
  have f43 := (f40.ext E42)
  have f44 := (f38.ext E42)
  have f45 := (f39.ext E42)
  have f47 := (f37.ext E42)
  obtain ⟨_, T46, L46, X46, hQ46, st46⟩ := cV X42 hx hZ42 hown42 (W hw 149 rfl) (W hw 150 rfl) (notFace_of_selects (args := #[]) (mvT hZ42 (W hw 152 rfl))) (W hw 152 rfl) (W hw 151 rfl) (W hw 153 rfl) (W hw 2 rfl) (by decide) (rm26_7 l Z a0 hw [] a15 b42 p21 a25 bb42 k27 p28 kk42 h42 n0 O42 (hne42 a15 (CS42.2 a15 g_a15 E_18.lt)).1 La42 S_22 hc23 f43 Lc42 f44 Lv42 f45 Lb42 hc36) e42 f47 #[vr a1, vr a15, .unset] [] (by rw [hml]; rfl) (hb hby d20_68) pd_20 rfl (W := 0) (Nat.le_of_eq rfl) (by decide) (by decide) (by decide) (by decide)
  obtain ⟨rfl, Nq46, e46⟩ := hQ46
  have N46 := Fr.app N41 Nq46
  obtain ⟨fs, hr, hrun, hended, hREW⟩ := X46.leaveW (s := s) hS42 (by rw [e46]; exact hk42) (v := some .null) (fun h => by rw [Bd.returns] at h; cases h)
  refine ⟨_, _, pre0 _ ?_, hrun, hended, _, _, rfl, ?_, hREW.1, hREW.2.1, hREW.2.2.1, hREW.2.2.2.mono (by decide) (by decide)⟩
  · show Steps p.tables e below (s₁.setTop (mkF m 0 #[vr a1, .unset, .unset] [])) _
    refine XS.aloadN X0.here hx rfl (hb hby d20_0) rfl rfl ?_
    refine st3 _ ?_
    refine XS.aloadN X3.here hx rfl (hb hby d20_4) rfl rfl ?_
    refine st6 _ ?_
    refine st9 _ ?_
    refine XS.icmpYes X9.here hx rfl (pc0 := 13) (pc' := 18) rfl (hb hby d20_13) rfl (feq ((by decide) : ¬ ((0 : Int32) = (1 : Int32)))).2 (by decide) (by decide) ?_
    refine XS.aloadN X9.here hx rfl (hb hby d20_18) rfl rfl ?_
    refine st10 _ ?_
    refine XS.aloadN X10.here hx rfl (hb hby d20_22) rfl rfl ?_
    refine st11 _ ?_
    show Steps p.tables e below (T11.setTop (mkF m 26 #[vr a1, .unset, .unset] [(.int 0), (.ref a4)])) _
    refine st17 _ ?_
    refine st19 _ ?_
    refine XS.astoreN X19.here hx rfl (hb hby d20_34) rfl rfl (l' := #[vr a1, vr a15, .unset]) rfl ?_
    refine XS.aloadN X19.here hx rfl (hb hby d20_35) rfl rfl ?_
    refine st20 _ ?_
    refine st33 _ ?_
    refine XS.ifYes X33.here hx rfl (pc0 := 41) (pc' := 56) rfl (hb hby d20_41) rfl ((if0 _ _).trans (teq ((by decide) : (0 : Int32) = (0 : Int32))).1) (by decide) (by decide) ?_
    refine XS.aloadN X33.here hx rfl (hb hby d20_56) rfl rfl ?_
    refine st35 _ ?_
    refine st41 _ ?_
    show Steps p.tables e below (T41.setTop (mkF m 62 #[vr a1, vr a15, .unset] [(.int 1)])) _
    refine XS.ifNo X41.here hx rfl (hb hby d20_62) rfl ((if0 _ _).trans (feq ((by decide) : ¬ ((1 : Int32) = (0 : Int32)))).1) ?_
    refine XS.aloadN X41.here hx rfl (hb hby d20_65) rfl rfl ?_
    refine st42 _ ?_
    refine st46 _ ?_
    refine XS.ifNo X46.here hx rfl (hb hby d20_71) rfl ((if0 _ _).trans (feq ((by decide) : ¬ ((1 : Int32) = (0 : Int32)))).1) ?_
    refine XS.aconstNull X46.here hx rfl (hb hby d20_74) ?_
    jvm_step X46.here [X46.here.top, hx, (hb hby d20_75), X46.method', Bd.returns, Value.isRef, FieldType.isReference]
    first | (intro acts; rw [hr _ acts rfl rfl rfl]) | rw [hr _ _ rfl rfl rfl]
    exact Steps.refl _
  · show Qrm20_6 Z a1 a4 a12 k14 a15 p21 a25 k27 p28 h0 n0 _ T46.heap _
    rw [e46]
    exact ⟨rfl, N46, K42⟩
def Qrm41_2 (Z : State) (a1 : Addr) (a2 : Addr) (a3 : Addr) (a16 : Addr) (k18 : ClassId) (a19 : Addr) (h0 : Heap) (n0 : Nat) (v : Option Value) (h : Heap) (L : List Loc) : Prop := v = some (.ref a19) ∧ Fr n0 L ∧ h = h0
set_option maxRecDepth 65536 in
set_option maxHeartbeats 40000000 in
theorem rm41_2 (l : Launch) (Z : State) (a0 : Array Value) (hw : ∀ d ∈ tables_1, d.before a0 Z = true) (ws : List Jvm.Cond) (a1 : Addr) (a2 : Addr) (a3 : Addr) (a16 : Addr) (k18 : ClassId) (a19 : Addr) (h0 : Heap) (n0 : Nat) (O0 : Old Z n0 h0) (F_4 : Fld Z h0 a1 "com/example/runqueue/runqueue/Arguments" "args" "Ljava/util/List;" (.ref a3)) (E_6 : Exa Z h0 a3 "java/util/ArrayList") (F_7 : Fld Z h0 a3 "java/util/ArrayList" "size" "I" (.int 1)) (F_9 : Fld Z h0 a1 "com/example/runqueue/runqueue/Arguments" "next" "I" (.int 0)) (F_17 : Fld Z h0 a3 "java/util/ArrayList" "elementData" "[Ljava/lang/Object;" (.ref a16)) (V_20 : Arv Z h0 a16 k18 (.object "java/lang/Object") (10 : Int32) [(.ref a19)] .null) (E_22 : Exa Z h0 a19 "java/lang/String") :
    MF l Z h0 (⟨"com/example/runqueue/runqueue/Arguments", "lastOperand", "(Ljava/lang/String;)Ljava/lang/String;"⟩ : MethodName) prog_1_method_10_code 2 (some (.object "java/lang/String")) ws (⟨3, 0, 0, 40⟩ : Room) #[(.ref a1), (.ref a2)] (Qrm41_2 Z a1 a2 a3 a16 k18 a19 h0 n0) := by
  refine MetFree.of_bodySF (plainFor_of_name pn_21) hisR ?_
  intro p e s m args below meth c s₁ Bd hml0 hP hK
  obtain ⟨rfl, hZ, hh⟩ := hP
  have hx := Bd.exec
  have hby := Bd.bytes
  have hml : c.maxLocals = 2 := hml0
  have hown : s.vm.findClass "com/example/runqueue/runqueue/Arguments" = some m.cls := findClass_of_methodNamed Bd.named
  have X0 : Stand p l e (⟨3, 0, 0, 40⟩ : Room) s m #[(.ref a1), (.ref a2)] below meth c s₁ [] 0 0 := Stand.of_body Bd
  have e0 : s₁.heap = h0 := by rw [← hh, Bd.state]; rfl
  have N0 := Fr.nil n0
  have pre0 : ∀ t, Steps p.tables e below (s₁.setTop (mkF m 0 #[vr a1, vr a2] [])) t → Steps p.tables e below (s₁.setTop (entryFrame m #[(.ref a1), (.ref a2)] 2)) t := fun t k => castTop (ef_41_RR m a1 a2) k
  obtain ⟨T5, X5, e5, st5⟩ := getF X0 hx hZ hown (host := "") (Or.inl (W hw 106 rfl)) Via.refl e0 F_4 (g := (mkF m 1 #[vr a1, vr a2] [(.ref a1)])) rfl rfl (hb hby d41_1)
  obtain ⟨_, T8, L8, X8, hQ8, st8⟩ := cF X5 hx hZ hown (W hw 115 rfl) (W hw 116 rfl) (mvT hZ (W hw 117 rfl)) (W hw 118 rfl) (W hw 119 rfl) (W hw 120 rfl) (W hw 121 rfl) (W hw 122 rfl) (W hw 123 rfl) (W hw 46 rfl) (by decide) (rm21 l Z a0 hw [] a3 h0 n0 O0 F_7) e5 E_6 #[vr a1, vr a2] [] (by rw [hml]; rfl) (hb hby d41_4) pd_23 rfl (W := 0) (Nat.le_of_eq rfl) (by decide) (by decide) (by decide) (by decide)
  obtain ⟨rfl, Nq8, e8⟩ := hQ8
  have N8 := Fr.app N0 Nq8
  obtain ⟨T10, X10, e10, st10⟩ := getF X8 hx hZ hown (host := "") (Or.inl (W hw 113 rfl)) Via.refl e8 F_9 (g := (mkF m 10 #[vr a1, vr a2] [(.ref a1), (.int 1)])) rfl rfl (hb hby d41_10)
  obtain ⟨T11, X11, e11, st11⟩ := getF X10 hx hZ hown (host := "") (Or.inl (W hw 113 rfl)) Via.refl e10 F_9 (g := (mkF m 51 #[vr a1, vr a2] [(.ref a1)])) rfl rfl (hb hby d41_51)
  obtain ⟨T12, X12, e12, st12⟩ := getF X11 hx hZ hown (host := "") (Or.inl (W hw 106 rfl)) Via.refl e11 F_4 (g := (mkF m 55 #[vr a1, vr a2] [(.ref a1), (.int 0)])) rfl rfl (hb hby d41_55)
  obtain ⟨_, T13, L13, X13, hQ13, st13⟩ := cF X12 hx hZ hown (W hw 115 rfl) (W hw 116 rfl) (mvT hZ (W hw 117 rfl)) (W hw 118 rfl) (W hw 119 rfl) (W hw 120 rfl) (W hw 121 rfl) (W hw 122 rfl) (W hw 123 rfl) (W hw 46 rfl) (by decide) (rm21 l Z a0 hw [] a3 h0 n0 O0 F_7) e12 E_6 #[vr a1, vr a2] [(.int 0)] (by rw [hml]; rfl) (hb hby d41_58) pd_23 rfl (W := 1) (Nat.le_of_eq rfl) (by decide) (by decide) (by decide) (by decide)
  obtain ⟨rfl, Nq13, e13⟩ := hQ13
  have N13 := Fr.app N8 Nq13
  obtain ⟨T14, X14, e14, st14⟩ := getF X13 hx hZ hown (host := "") (Or.inl (W hw 106 rfl)) Via.refl e13 F_4 (g := (mkF m 67 #[vr a1, vr a2] [(.ref a1)])) rfl rfl (hb hby d41_67)
  obtain ⟨T15, X15, e15, st15⟩ := getF X14 hx hZ hown (host := "") (Or.inl (W hw 113 rfl)) Via.refl e14 F_9 (g := (mkF m 71 #[vr a1, vr a2] [(.ref a1), (.ref a3)])) rfl rfl (hb hby d41_71)
  obtain ⟨_, T21, L21, X21, hQ21, st21⟩ := cF X15 hx hZ hown (W hw 124 rfl) (W hw 125 rfl) (mvT hZ (W hw 126 rfl)) (W hw 127 rfl) (W hw 128 rfl) (W hw 129 rfl) (W hw 130 rfl) (W hw 122 rfl) (W hw 131 rfl) (W hw 46 rfl) (by decide) (rm22 l Z a0 hw [] a3 a16 k18 a19 h0 n0 O0 F_7 E_6 F_17 V_20) e15 E_6 #[vr a1, vr a2] [] (by rw [hml]; rfl) (hb hby d41_74) pd_27 rfl (W := 0) (Nat.le_of_eq rfl) (by decide) (by decide) (by decide) (by decide)
  obtain ⟨rfl, Nq21, e21⟩ := hQ21
  have N21 := Fr.app N13 Nq21
  obtain ⟨T23, X23, e23, st23⟩ := castY X21 hx hZ hown (W hw 145 rfl) e21 (Ins.self E_22) (g := (mkF m 79 #[vr a1, vr a2] [(.ref a19)])) rfl rfl (hb hby d41_79)
  obtain ⟨fs, hr, hrun, hended, hW, hsame⟩ := X23.leave (v := some (.ref a19)) (fun h => by rw [Bd.returns] at h; cases h)
  refine ⟨_, _, pre0 _ ?_, hrun, hended, _, _, rfl, ?_, ⟨_, rfl⟩, hW, hsame.mono (by decide) (by decide)⟩
  · show Steps p.tables e below (s₁.setTop (mkF m 0 #[vr a1, vr a2] [])) _
    refine XS.aloadN X0.here hx rfl (hb hby d41_0) rfl rfl ?_
    refine st5 _ ?_
    refine st8 _ ?_
    refine XS.aloadN X8.here hx rfl (hb hby d41_9) rfl rfl ?_
    refine st10 _ ?_
    refine XS.isub X10.here hx rfl (hb hby d41_13) rfl ?_
    show Steps p.tables e below (T10.setTop (mkF m 14 #[vr a1, vr a2] [(.int ((1 : Int32) - (0 : Int32)))])) _
    rw [show ((1 : Int32) - (0 : Int32)) = (1 : Int32) from by decide]
    refine XS.iconst X10.here hx rfl (hb hby d41_14) ?_
    refine XS.icmpYes X10.here hx rfl (pc0 := 15) (pc' := 50) rfl (hb hby d41_15) rfl (flt ((by decide) : ¬ ((1 : Int32) < (1 : Int32)))).2.2.2 (by decide) (by decide) ?_
    refine XS.aloadN X10.here hx rfl (hb hby d41_50) rfl rfl ?_
    refine st11 _ ?_
    refine XS.aloadN X11.here hx rfl (hb hby d41_54) rfl rfl ?_
    refine st12 _ ?_
    refine st13 _ ?_
    refine XS.icmpNo X13.here hx rfl (hb hby d41_63) rfl (tlt ((by decide) : (0 : Int32) < (1 : Int32))).2.1 ?_
    refine XS.aloadN X13.here hx rfl (hb hby d41_66) rfl rfl ?_
    show Steps p.tables e below (T13.setTop (mkF m 67 #[vr a1, vr a2] [(.ref a1)])) _
    refine st14 _ ?_
    refine XS.aloadN X14.here hx rfl (hb hby d41_70) rfl rfl ?_
    refine st15 _ ?_
    refine st21 _ ?_
    refine st23 _ ?_
    refine XS.goto X23.here hx rfl (pc0 := 82) (pc' := 86) rfl (hb hby d41_82) (by decide) (by decide) ?_
    jvm_step X23.here [X23.here.top, hx, (hb hby d41_86), X23.method', Bd.returns, Value.isRef, FieldType.isReference]
    first | (intro acts; rw [hr _ acts rfl rfl rfl]) | rw [hr _ _ rfl rfl rfl]
    exact Steps.refl _
  · show Qrm41_2 Z a1 a2 a3 a16 k18 a19 h0 n0 _ T23.heap _
    rw [e23]
    exact ⟨rfl, N21, rfl⟩
theorem ef_0_IIII (m : MethodId) (x0 : Int32) (x1 : Int32) (x2 : Int32) (x3 : Int32) : entryFrame m #[(.int x0), (.int x1), (.int x2), (.int x3)] maxLocals = mkF m 0 #[vi x0, vi x1, vi x2, vi x3, .unset, .unset, .unset, .unset, .unset, .unset, .unset, .unset, .unset, .unset, .unset, .unset, .unset, .unset] [] := by first | (simp [entryFrame, mkF, argsToLocals, Value.category, maxLocals]; done) | rfl
theorem pn_43 : plainName "com/example/runqueue/runqueue/ArgumentsFlagPinLaw" = true := by first | (simp [plainName, overriddenIn]; done) | decide +kernel
def Qrm0 (Z : State) (p1 : Int32) (p2 : Int32) (p3 : Int32) (p4 : Int32) (cs5 : Int32) (w6 : Addr) (k7 : ClassId) (h0 : Heap) (n0 : Nat) (v : Option Value) (h : Heap) (L : List Loc) : Prop := v = some (.int (1 : Int32)) ∧ Fr n0 L
set_option maxRecDepth 65536 in
set_option maxHeartbeats 40000000 in
theorem rm0 (l : Launch) (Z : State) (a0 : Array Value) (hw : ∀ d ∈ tables_1, d.before a0 Z = true) (ws : List Jvm.Cond) (p1 : Int32) (p2 : Int32) (p3 : Int32) (p4 : Int32) (cs5 : Int32) (w6 : Addr) (k7 : ClassId) (h0 : Heap) (n0 : Nat) (O0 : Old Z n0 h0) (T_SF : own_SF Z) (S_cs : Sta Z Z.heap "java/lang/String" "COMPACT_STRINGS" "Z" (.int cs5)) (hcs : ¬ (cs5 = (0 : Int32))) (S_D : Sta Z Z.heap "java/util/ArrayList" "DEFAULTCAPACITY_EMPTY_ELEMENTDATA" "[Ljava/lang/Object;" (.ref w6)) (E_D : Exa Z Z.heap w6 "[Ljava/lang/Object;") (V_D : Arv Z Z.heap w6 k7 (.object "java/lang/Object") (0 : Int32) [] .null) :
    MetFree l x (head1 (Jvm.Cond.code x code maxLocals ret :: ws) room_1) (fun a U => a = #[(.int p1), (.int p2), (.int p3), (.int p4)] ∧ Z.Warmed39 U.vm ∧ U.heap = h0 ∧ own_CH Z own_EL n0 U.vm h0) (fun _ _ _ _ _ => True) (fun _ U o U' => ∃ v L, o = .returned v ∧ Qrm0 Z p1 p2 p3 p4 cs5 w6 k7 h0 n0 v U'.heap L ∧ ReturnedEndW U o U' L room_1.cells room_1.slots) := by
  refine MetFree.of_bodySF (plainFor_of_name pn_43) hisR ?_
  intro p e s m args below meth c s₁ Bd hml0 hP hK
  obtain ⟨rfl, hZ, hh, hCH⟩ := hP
  have hx := Bd.exec
  have hby := Bd.bytes
  have hml : c.maxLocals = 18 := hml0
  have hown : s.vm.findClass "com/example/runqueue/runqueue/ArgumentsFlagPinLaw" = some m.cls := findClass_of_methodNamed Bd.named
  have X0 : Stand p l e room_1 s m #[(.int p1), (.int p2), (.int p3), (.int p4)] below meth c s₁ [] 0 0 := Stand.of_body Bd
  have e0 : s₁.heap = h0 := by rw [← hh, Bd.state]; rfl
  have N0 := Fr.nil n0
  have pre0 : ∀ t, Steps p.tables e below (s₁.setTop (mkF m 0 #[vi p1, vi p2, vi p3, vi p4, .unset, .unset, .unset, .unset, .unset, .unset, .unset, .unset, .unset, .unset, .unset, .unset, .unset, .unset] [])) t → Steps p.tables e below (s₁.setTop (entryFrame m #[(.int p1), (.int p2), (.int p3), (.int p4)] maxLocals)) t := fun t k => castTop (ef_0_IIII m p1 p2 p3 p4) k
  have hS0 : s.Since s.vm 0 := (State.WarmedH.refl s).since 0
  obtain ⟨ca, h_ca⟩ : ∃ z : Int32, z = (p1 &&& (255 : Int32)) := ⟨_, rfl⟩
  have h0_ca : ¬ ca < (0 : Int32) := by rw [h_ca]; exact own_and0 _
  have h1_ca : ¬ (255 : Int32) < ca := by rw [h_ca]; exact own_255 _
  obtain ⟨cb, h_cb⟩ : ∃ z : Int32, z = (p2 &&& (255 : Int32)) := ⟨_, rfl⟩
  have h0_cb : ¬ cb < (0 : Int32) := by rw [h_cb]; exact own_and0 _
  have h1_cb : ¬ (255 : Int32) < cb := by rw [h_cb]; exact own_255 _
  obtain ⟨co, h_co⟩ : ∃ z : Int32, z = (p3 &&& (255 : Int32)) := ⟨_, rfl⟩
  have h1_co : ¬ (255 : Int32) < co := by rw [h_co]; exact own_255 _
  obtain ⟨kd, h_kd⟩ : ∃ z : Int32, z = (p4 &&& (3 : Int32)) := ⟨_, rfl⟩
  have pre8 : ∀ t, Steps p.tables e below (s₁.setTop (mkF m 29 #[vi p1, vi p2, vi p3, vi p4, vi ca, vi cb, vi co, vi kd, .unset, .unset, .unset, .unset, .unset, .unset, .unset, .unset, .unset, .unset] [])) t → Steps p.tables e below (s₁.setTop (entryFrame m #[(.int p1), (.int p2), (.int p3), (.int p4)] maxLocals)) t := fun t kt => pre0 t (by
    show Steps p.tables e below (s₁.setTop (mkF m 0 #[vi p1, vi p2, vi p3, vi p4, .unset, .unset, .unset, .unset, .unset, .unset, .unset, .unset, .unset, .unset, .unset, .unset, .unset, .unset] [])) _
    refine XS.iloadN X0.here hx rfl (hb hby at_0) rfl ?_
    refine XS.sipush X0.here hx rfl (hb hby at_1) ?_
    refine XS.iand X0.here hx rfl (hb hby at_4) rfl ?_
    refine XS.i2c X0.here hx rfl (hb hby at_5) rfl ?_
    show Steps p.tables e below (s₁.setTop (mkF m 6 #[vi p1, vi p2, vi p3, vi p4, .unset, .unset, .unset, .unset, .unset, .unset, .unset, .unset, .unset, .unset, .unset, .unset, .unset, .unset] [(.int ((p1 &&& (255 : Int32)).toUInt32.toUInt16.toUInt32.toInt32))])) _
    rw [i2c_mask]
    show Steps p.tables e below (s₁.setTop (mkF m 6 #[vi p1, vi p2, vi p3, vi p4, .unset, .unset, .unset, .unset, .unset, .unset, .unset, .unset, .unset, .unset, .unset, .unset, .unset, .unset] [(.int (p1 &&& (255 : Int32)))])) _
    rw [← h_ca]
    refine XS.istore X0.here hx rfl (hb hby at_6) rfl (l' := #[vi p1, vi p2, vi p3, vi p4, vi ca, .unset, .unset, .unset, .unset, .unset, .unset, .unset, .unset, .unset, .unset, .unset, .unset, .unset]) rfl ?_
    refine XS.iloadN X0.here hx rfl (hb hby at_8) rfl ?_
    refine XS.sipush X0.here hx rfl (hb hby at_9) ?_
    refine XS.iand X0.here hx rfl (hb hby at_12) rfl ?_
    refine XS.i2c X0.here hx rfl (hb hby at_13) rfl ?_
    show Steps p.tables e below (s₁.setTop (mkF m 14 #[vi p1, vi p2, vi p3, vi p4, vi ca, .unset, .unset, .unset, .unset, .unset, .unset, .unset, .unset, .unset, .unset, .unset, .unset, .unset] [(.int ((p2 &&& (255 : Int32)).toUInt32.toUInt16.toUInt32.toInt32))])) _
    rw [i2c_mask]
    show Steps p.tables e below (s₁.setTop (mkF m 14 #[vi p1, vi p2, vi p3, vi p4, vi ca, .unset, .unset, .unset, .unset, .unset, .unset, .unset, .unset, .unset, .unset, .unset, .unset, .unset] [(.int (p2 &&& (255 : Int32)))])) _
    rw [← h_cb]
    refine XS.istore X0.here hx rfl (hb hby at_14) rfl (l' := #[vi p1, vi p2, vi p3, vi p4, vi ca, vi cb, .unset, .unset, .unset, .unset, .unset, .unset, .unset, .unset, .unset, .unset, .unset, .unset]) rfl ?_
    refine XS.iloadN X0.here hx rfl (hb hby at_16) rfl ?_
    refine XS.sipush X0.here hx rfl (hb hby at_17) ?_
    refine XS.iand X0.here hx rfl (hb hby at_20) rfl ?_
    refine XS.i2c X0.here hx rfl (hb hby at_21) rfl ?_
    show Steps p.tables e below (s₁.setTop (mkF m 22 #[vi p1, vi p2, vi p3, vi p4, vi ca, vi cb, .unset, .unset, .unset, .unset, .unset, .unset, .unset, .unset, .unset, .unset, .unset, .unset] [(.int ((p3 &&& (255 : Int32)).toUInt32.toUInt16.toUInt32.toInt32))])) _
    rw [i2c_mask]
    show Steps p.tables e below (s₁.setTop (mkF m 22 #[vi p1, vi p2, vi p3, vi p4, vi ca, vi cb, .unset, .unset, .unset, .unset, .unset, .unset, .unset, .unset, .unset, .unset, .unset, .unset] [(.int (p3 &&& (255 : Int32)))])) _
    rw [← h_co]
    refine XS.istore X0.here hx rfl (hb hby at_22) rfl (l' := #[vi p1, vi p2, vi p3, vi p4, vi ca, vi cb, vi co, .unset, .unset, .unset, .unset, .unset, .unset, .unset, .unset, .unset, .unset, .unset]) rfl ?_
    refine XS.iloadN X0.here hx rfl (hb hby at_24) rfl ?_
    refine XS.iconst X0.here hx rfl (hb hby at_25) ?_
    refine XS.iand X0.here hx rfl (hb hby at_26) rfl ?_
    show Steps p.tables e below (s₁.setTop (mkF m 27 #[vi p1, vi p2, vi p3, vi p4, vi ca, vi cb, vi co, .unset, .unset, .unset, .unset, .unset, .unset, .unset, .unset, .unset, .unset, .unset] [(.int (p4 &&& (3 : Int32)))])) _
    rw [← h_kd]
    refine XS.istore X0.here hx rfl (hb hby at_27) rfl (l' := #[vi p1, vi p2, vi p3, vi p4, vi ca, vi cb, vi co, vi kd, .unset, .unset, .unset, .unset, .unset, .unset, .unset, .unset, .unset, .unset]) rfl ?_
    exact kt)
  rcases own_and3 p4 kd h_kd with hk | hk | hk | hk
  · have pre9 : ∀ t, Steps p.tables e below (s₁.setTop (mkF m 29 #[vi p1, vi p2, vi p3, vi p4, vi ca, vi cb, vi co, vi 0, .unset, .unset, .unset, .unset, .unset, .unset, .unset, .unset, .unset, .unset] [])) t → Steps p.tables e below (s₁.setTop (entryFrame m #[(.int p1), (.int p2), (.int p3), (.int p4)] maxLocals)) t := fun t kt => pre8 t (by
      show Steps p.tables e below (s₁.setTop (mkF m 29 #[vi p1, vi p2, vi p3, vi p4, vi ca, vi cb, vi co, vi kd, .unset, .unset, .unset, .unset, .unset, .unset, .unset, .unset, .unset, .unset] [])) _
      rw [hk]
      exact kt)
    by_cases h4 : (p4 &&& (4 : Int32)) = (0 : Int32)
    · obtain ⟨T10, h10, X10, e10, E10, A10, D10, U10, st10⟩ := newO X0 hx hZ hown (W hw 0 rfl) (W hw 1 rfl) (W hw 2 rfl) e0 (g := (mkF m 53 #[vi p1, vi p2, vi p3, vi p4, vi ca, vi cb, vi co, vi 0, vi 0, .unset, .unset, .unset, .unset, .unset, .unset, .unset, .unset, .unset] [])) rfl (hb hby at_53) (by decide) (by decide)
      obtain ⟨b10, g10⟩ : ∃ z, z = h0.size := ⟨_, rfl⟩
      rw [← g10] at A10 D10 U10 st10
      have g_b10 := own_born O0 (own_eqle g10)
      have sz_b10 := Nat.le_trans (Keep.refl h0 []).1 (own_eqle g10)
      have K10 := (Keep.refl h0 []).ext E10
      have O10 := O0.ext E10
      have F10_coder : Fld Z h10 b10 "java/lang/String" "coder" "B" (.int 0) := D10 (Or.inr (W hw 27 rfl)) (ty := .byte) (by decide)
      have F10_value : Fld Z h10 b10 "java/lang/String" "value" "[B" .null := D10 (Or.inr (W hw 29 rfl)) (ty := (.array .byte)) (by decide)
      obtain ⟨T11, h11, k11, X11, e11, E11, A11, B11, st11⟩ := newPE X10 hx hZ (W hw 3 rfl) e10 (g := (mkF m 58 #[vi p1, vi p2, vi p3, vi p4, vi ca, vi cb, vi co, vi 0, vi 0, .unset, .unset, .unset, .unset, .unset, .unset, .unset, .unset, .unset] [(.int 2), (.ref b10), (.ref b10)])) rfl (hb hby at_58) rfl (by decide) (cap := 2) (by decide) (by decide) (by decide) (by decide) (ad := "[C") (by decide)
      obtain ⟨b11, g11⟩ : ∃ z, z = h10.size := ⟨_, rfl⟩
      rw [← g11] at A11 B11 st11
      have ne12 := (own_ltn A10.lt (own_eqle g11))
      have g_b11 := own_born O10 (own_eqle g11)
      have sz_b11 := Nat.le_trans K10.1 (own_eqle g11)
      have K11 := K10.ext E11
      have O11 := O10.ext E11
      have V11 : Arv Z h11 b11 k11 .char (2 : Int32) [] (.int 0) := Arv.new A11 (by decide)
      have V13 : Arv Z h11 b11 k11 .char (2 : Int32) [(.int 0)] (.int 0) := V11.pad (pad_rep [] (.int 0) 1)
      obtain ⟨cl14, Ar14, q14, S14, M14, Hs14, G14⟩ := id V13
      have hin14 : ¬ ((0 : Int32) < 0 ∨ cl14.slots.size ≤ ((0 : Int32)).toNatClampNeg) := inb_of S14 ⟨by decide, by decide⟩
      obtain ⟨T15, h15, X15, e15, W15, st15⟩ := stC X11 hx hZ e11 Ar14 (j := (0 : Int32)) hin14 (g := (mkF m 64 #[vi p1, vi p2, vi p3, vi p4, vi ca, vi cb, vi co, vi 0, vi 0, .unset, .unset, .unset, .unset, .unset, .unset, .unset, .unset, .unset] [(.int 45), (.int 0), (.ref b11), (.ref b11), (.ref b10), (.ref b10)])) rfl rfl (hb hby at_64)
      have K15 := K11.wr W15 (Or.inr sz_b11)
      have O15 := O11.wr W15 g_b11
      have N15 := Fr.snoc X15 N0 g_b11
      have Vw15 : Arv Z h15 b11 k11 .char (2 : Int32) [(.int (nar .char (45 : Int32)))] (.int 0) := Arv.set Ar14 q14 S14 M14 Hs14 G14 (fits_nar_char _) W15 0 rfl (Nat.le_of_ble_eq_true rfl)
      have V16 : Arv Z h15 b11 k11 .char (2 : Int32) [(.int (nar .char (45 : Int32))), (.int 0)] (.int 0) := Vw15.pad (pad_rep [(.int (nar .char (45 : Int32)))] (.int 0) 1)
      obtain ⟨cl17, Ar17, q17, S17, M17, Hs17, G17⟩ := id V16
      have hin17 : ¬ ((1 : Int32) < 0 ∨ cl17.slots.size ≤ ((1 : Int32)).toNatClampNeg) := inb_of S17 ⟨by decide, by decide⟩
      obtain ⟨T18, h18, X18, e18, W18, st18⟩ := stC X15 hx hZ e15 Ar17 (j := (1 : Int32)) hin17 (g := (mkF m 69 #[vi p1, vi p2, vi p3, vi p4, vi ca, vi cb, vi co, vi 0, vi 0, .unset, .unset, .unset, .unset, .unset, .unset, .unset, .unset, .unset] [(.int ca), (.int 1), (.ref b11), (.ref b11), (.ref b10), (.ref b10)])) rfl rfl (hb hby at_69)
      have K18 := K15.wr W18 (Or.inr sz_b11)
      have O18 := O15.wr W18 g_b11
      have N18 := Fr.snoc X18 N15 g_b11
      have Vw18 : Arv Z h18 b11 k11 .char (2 : Int32) [(.int (nar .char (45 : Int32))), (.int (nar .char ca))] (.int 0) := Arv.set Ar17 q17 S17 M17 Hs17 G17 (fits_nar_char _) W18 1 rfl (Nat.le_of_ble_eq_true rfl)
      have f19 := (((A10.ext E11).wr W15).wr W18)
      have f20 := (((F10_coder.ext E11).other W15 (Or.inl ne12)).other W18 (Or.inl ne12))
      have f21 := (((F10_value.ext E11).other W15 (Or.inl ne12)).other W18 (Or.inl ne12))
      obtain ⟨_, T22, L22, X22, hQ22, st22⟩ := cI X18 hx hZ hown (W hw 4 rfl) (W hw 5 rfl) (W hw 6 rfl) (W hw 2 rfl) rfl (by decide) (rm1 l Z a0 hw [] b10 b11 k11 (nar .char (45 : Int32)) (nar .char ca) cs5 h18 n0 O18 Vw18 S_cs hcs (by decide) (own_c1 ca h0_ca h1_ca) f19 f20 g_b10 f21) e18 #[vi p1, vi p2, vi p3, vi p4, vi ca, vi cb, vi co, vi 0, vi 0, .unset, .unset, .unset, .unset, .unset, .unset, .unset, .unset, .unset] [(.ref b10)] (by rw [hml]; rfl) (hb hby at_70) pd_6 rfl (W := 1) (Nat.le_of_eq rfl) (by decide) (by decide) (by decide) (by decide)
      obtain ⟨b23, k24, rfl, Nq22, K22, sq22_b23, P22_0, P22_1, P22_2, P22_3, P22_4⟩ := hQ22
      have N22 := Fr.app N18 Nq22
      have KK22 := Keep.trans (h := h18) K18 K22 (allS (Or.inr sz_b10) all0)
      have O22 := O18.keep K22 (allS g_b10 all0)
      obtain ⟨T28, Lc28, X28, Nq28, hQ28⟩ := sg0_189_213 hw p1 p2 p3 p4 ca cb co (0 : Int32) (0 : Int32) b10 cs5 w6 k7 T22.heap n0 O22 S_cs hcs h1_co S_D V_D P22_0 X22 hx hZ hby hml hown rfl N22 (by decide) (by decide) (by decide) (by decide)
      obtain ⟨b29, b30, b31, b32, k33, k34, K28, sq28_b29, sq28_b30, sq28_b31, sq28_b32, P28_0, P28_1, P28_2, P28_3, P28_4, P28_5, P28_6, P28_7, P28_8, P28_9, P28_10, P28_11, P28_12, P28_13, P28_14, P28_15, P28_16, P28_17, st28⟩ := hQ28
      have KK28 := Keep.trans (h := T22.heap) KK22 K28 all0
      have O28 := O22.keep K28 all0
      obtain ⟨T48, Lc48, X48, Nq48, hQ48⟩ := sg0_226_237 hw p1 p2 p3 p4 ca cb co (0 : Int32) (0 : Int32) b10 b29 b30 T28.heap n0 O28  X28 hx hZ hby hml hown rfl Nq28 (by decide) (by decide) (by decide) (by decide)
      obtain ⟨b49, K48, sq48_b49, P48_0, P48_1, P48_2, P48_3, P48_4, st48⟩ := hQ48
      have f50 := (P22_0.keep K28)
      have ne51 := (own_ltn f50.lt sq48_b49)
      have f54 := (P22_3.keep K28)
      have ne55 := (own_ltn f54.lt sq48_b49)
      have ne57 := (own_ltn P28_9.lt sq48_b49)
      have g_b49 := own_born O28 sq48_b49
      have KK48 := Keep.trans (h := T28.heap) KK28 K48 all0
      have O48 := O28.keep K48 all0
      have pre60 : ∀ t, Steps p.tables e below (T48.setTop (mkF m 237 #[vi p1, vi p2, vi p3, vi p4, vi ca, vi cb, vi co, vi 0, vi 0, vr b10, vr b29, vr b30, vr b49, .unset, .unset, .unset, .unset, .unset] [])) t → Steps p.tables e below (s₁.setTop (entryFrame m #[(.int p1), (.int p2), (.int p3), (.int p4)] maxLocals)) t := fun t kt => pre9 t (by
        show Steps p.tables e below (s₁.setTop (mkF m 29 #[vi p1, vi p2, vi p3, vi p4, vi ca, vi cb, vi co, vi 0, .unset, .unset, .unset, .unset, .unset, .unset, .unset, .unset, .unset, .unset] [])) _
        refine XS.iloadN X0.here hx rfl (hb hby at_29) rfl ?_
        refine XS.iconst X0.here hx rfl (hb hby at_30) ?_
        refine XS.iand X0.here hx rfl (hb hby at_31) rfl ?_
        refine XS.ifYes X0.here hx rfl (pc0 := 32) (pc' := 45) rfl (hb hby at_32) rfl ((if0 _ _).trans (teq (h4 : (p4 &&& (4 : Int32)) = (0 : Int32))).1) (by decide) (by decide) ?_
        refine XS.iconst X0.here hx rfl (hb hby at_45) ?_
        refine XS.istore X0.here hx rfl (hb hby at_46) rfl (l' := #[vi p1, vi p2, vi p3, vi p4, vi ca, vi cb, vi co, vi 0, vi 0, .unset, .unset, .unset, .unset, .unset, .unset, .unset, .unset, .unset]) rfl ?_
        refine XS.iload X0.here hx rfl (hb hby at_48) rfl ?_
        refine XS.ifNo X0.here hx rfl (hb hby at_50) rfl ((if0 _ _).trans (teq ((by decide) : (0 : Int32) = (0 : Int32))).2) ?_
        refine st10 _ ?_
        refine XS.dup X10.here hx rfl (hb hby at_56) rfl rfl ?_
        show Steps p.tables e below (T10.setTop (mkF m 57 #[vi p1, vi p2, vi p3, vi p4, vi ca, vi cb, vi co, vi 0, vi 0, .unset, .unset, .unset, .unset, .unset, .unset, .unset, .unset, .unset] [(.ref b10), (.ref b10)])) _
        refine XS.iconst X10.here hx rfl (hb hby at_57) ?_
        refine st11 _ ?_
        refine XS.dup X11.here hx rfl (hb hby at_60) rfl rfl ?_
        refine XS.iconst X11.here hx rfl (hb hby at_61) ?_
        refine XS.bipush X11.here hx rfl (hb hby at_62) ?_
        refine st15 _ ?_
        refine XS.dup X15.here hx rfl (hb hby at_65) rfl rfl ?_
        refine XS.iconst X15.here hx rfl (hb hby at_66) ?_
        refine XS.iload X15.here hx rfl (hb hby at_67) rfl ?_
        refine st18 _ ?_
        show Steps p.tables e below (T18.setTop (mkF m 70 #[vi p1, vi p2, vi p3, vi p4, vi ca, vi cb, vi co, vi 0, vi 0, .unset, .unset, .unset, .unset, .unset, .unset, .unset, .unset, .unset] [(.ref b11), (.ref b10), (.ref b10)])) _
        refine st22 _ ?_
        refine XS.astore X22.here hx rfl (hb hby at_73) rfl rfl (l' := #[vi p1, vi p2, vi p3, vi p4, vi ca, vi cb, vi co, vi 0, vi 0, vr b10, .unset, .unset, .unset, .unset, .unset, .unset, .unset, .unset]) rfl ?_
        refine XS.goto X22.here hx rfl (pc0 := 75) (pc' := 189) rfl (hb hby at_75) (by decide) (by decide) ?_
        refine st28 _ ?_
        refine XS.iload X28.here hx rfl (hb hby at_213) rfl ?_
        refine XS.ifYes X28.here hx rfl (pc0 := 215) (pc' := 226) rfl (hb hby at_215) rfl ((if0 _ _).trans (teq ((by decide) : (0 : Int32) = (0 : Int32))).1) (by decide) (by decide) ?_
        refine st48 _ ?_
        exact kt)
      by_cases h5 : ca = (45 : Int32)
      · have f61 := (P28_9.keep K48)
        have f62 := (P28_11.keep K48 nin0)
        have f63 := (P28_10.keep K48 nin0)
        have f64 := (P28_17.keep K48 nin0)
        have f65 := (f50.keep K48)
        have f66 := ((P22_1.keep K28 nin0).keep K48 nin0)
        have f67 := ((P22_2.keep K28 nin0).keep K48 nin0)
        have f68 := ((P22_4.keep K28 nin0).keep K48 nin0)
        obtain ⟨cq69, kq69, q69a, q69b, q69c⟩ := isOf hZ rfl P48_0
        obtain ⟨_, _, ⟨T69, L69, k69, n69⟩, -, X69, h269, hg69, ⟨Lc69, hQ69, l69, y69, z69⟩, st69⟩ := X48.virtualBackS hx (y := (⟨"com/example/runqueue/runqueue/Arguments", "nextOption", "()Ljava/lang/String;"⟩ : MethodName)) (z := (⟨"com/example/runqueue/runqueue/Arguments", "nextOption", "()Ljava/lang/String;"⟩ : MethodName)) hown (mvT hZ (W hw 108 rfl)) (mvT hZ (W hw 109 rfl)) (notFace_of_selects (args := #[]) (mvT hZ (W hw 111 rfl))) (mvT hZ (W hw 111 rfl)) (mvT hZ (W hw 110 rfl)) (by decide) (own_backOfSH (s := s) (vm0 := s.vm) (W := 0) (rm20 l Z a0 hw [] b49 b30 b32 k34 b10 cs5 b23 k24 (nar .byte ((nar .char (45 : Int32)).toInt8.toInt32)) (nar .byte ((nar .char ca).toInt8.toInt32)) T48.heap n0 O48 P48_2 P48_1 f61 f62 f63 f64 f65 g_b10 S_cs hcs f66 f67 f68 (by decide) ((own_b45 ca h0_ca h1_ca).mpr h5) P48_0 g_b49 P48_3 P48_4) hZ (W hw 112 rfl) (W hw 101 rfl) (by decide) (by decide) (own_EW hw) (own_CH.keep KK48 hCH)) q69a q69c (g := (mkF m 239 #[vi p1, vi p2, vi p3, vi p4, vi ca, vi cb, vi co, vi 0, vi 0, vr b10, vr b29, vr b30, vr b49, .unset, .unset, .unset, .unset, .unset] [(.ref b49)])) rfl (by rw [hml]; rfl) (Steps.refl _) (argsL := []) (rest := []) (lenOf pd_29 rfl) rfl (by show 2 * 0 + _ ≤ _; exact Nat.le_of_eq rfl) (hb hby at_239) (fun _ _ => ⟨rfl, rfl, (by decide : 8 + 2 ≤ _), (by decide : 30 + 12 ≤ _)⟩)
        dsimp only [Pt.U, Pt.locs, Pt.cells, Pt.slots] at X69 l69 y69 z69 st69 hQ69 h269 hg69
        subst l69 y69 z69
        obtain ⟨X69, hS69, hZ69, hown69⟩ := rebS (s := s) (vm0 := s.vm) hS0 (show _ ≤ T48.heap.size from (Nat.le_trans (Nat.le_trans (Nat.le_trans (Nat.le_trans (Nat.le_trans (Nat.le_trans (Nat.le_trans (Nat.zero_le _) E10.1) E11.1) (Keep.of_wr W15).1) (Keep.of_wr W18).1) K22.1) K28.1) K48.1)) X69 h269 hg69 hZ hown
        obtain ⟨rfl, Nq69, K69, P69_0, P69_1, P69_2, P69_3, P69_4⟩ := hQ69
        have N69 := Fr.app Nq48 Nq69
        have O69 := O48.keep K69 (allS g_b49 all0)
        obtain ⟨_, T70, L70, X70, hQ70, st70⟩ := cV X69 hx hZ69 hown69 (W hw 214 rfl) (W hw 215 rfl) (notFace_of_selects (args := #[]) (mvT hZ69 (W hw 217 rfl))) (W hw 217 rfl) (W hw 216 rfl) (W hw 218 rfl) (W hw 101 rfl) (by decide) (rm40 l Z a0 hw [] b49 T69.heap n0 O69 P69_4) rfl P69_2 #[vi p1, vi p2, vi p3, vi p4, vi ca, vi cb, vi co, vi 0, vi 0, vr b10, vr b29, vr b30, vr b49, .unset, .unset, .unset, .unset, .unset] [] (by rw [hml]; rfl) (hb hby at_245) pd_30 rfl (W := 0) (Nat.le_of_eq rfl) (by decide) (by decide) (by decide) (by decide)
        obtain ⟨rfl, Nq70, e70⟩ := hQ70
        have N70 := Fr.app N69 Nq70
        obtain ⟨_, T71, L71, X71, hQ71, st71⟩ := cV X70 hx hZ69 hown69 (W hw 214 rfl) (W hw 215 rfl) (notFace_of_selects (args := #[]) (mvT hZ69 (W hw 217 rfl))) (W hw 217 rfl) (W hw 216 rfl) (W hw 218 rfl) (W hw 101 rfl) (by decide) (rm40 l Z a0 hw [] b49 T69.heap n0 O69 P69_4) e70 P69_2 #[vi p1, vi p2, vi p3, vi p4, vi ca, vi cb, vi co, vi 0, vi 0, vr b10, vr b29, vr b30, vr b49, vi 1, .unset, .unset, .unset, .unset] [] (by rw [hml]; rfl) (hb hby at_252) pd_30 rfl (W := 0) (Nat.le_of_eq rfl) (by decide) (by decide) (by decide) (by decide)
        obtain ⟨rfl, Nq71, e71⟩ := hQ71
        have N71 := Fr.app N70 Nq71
        obtain ⟨b72, T72, h72, k72, X72, e72, E72, hS72, hk72, hZ72, hown72, st72⟩ := ldcS (s := s) (vm0 := T69.vm) X71 hx hZ69 hown69 (W hw 219 rfl) (own_wS hw) e71 hS69 (Nat.le_refl _) (g := (mkF m 259 #[vi p1, vi p2, vi p3, vi p4, vi ca, vi cb, vi co, vi 0, vi 0, vr b10, vr b29, vr b30, vr b49, vi 1, vi 1, .unset, .unset, .unset] [(.ref b49)])) rfl (hb hby at_259) (n := 4) (by decide) (by decide) (by decide) (by decide)
        have O72 := O69.ext E72
        have f73 := (P69_1.ext E72)
        have f74 := ((f61.keep K69).ext E72)
        have f75 := ((f62.keep K69 (ninS ne57 nin0)).ext E72)
        have f76 := (P69_0.ext E72)
        have f78 := (P69_2.ext E72)
        obtain ⟨_, T77, L77, X77, hQ77, st77⟩ := cV X72 hx hZ72 hown72 (W hw 220 rfl) (W hw 221 rfl) (notFace_of_selects (args := #[]) (mvT hZ72 (W hw 223 rfl))) (W hw 223 rfl) (W hw 222 rfl) (W hw 224 rfl) (W hw 101 rfl) (by decide) (rm41 l Z a0 hw [] b49 b72 b30 h72 n0 O72 f73 f74 f75 f76) e72 f78 #[vi p1, vi p2, vi p3, vi p4, vi ca, vi cb, vi co, vi 0, vi 0, vr b10, vr b29, vr b30, vr b49, vi 1, vi 1, .unset, .unset, .unset] [] (by rw [hml]; rfl) (hb hby at_261) pd_31 rfl (W := 0) (Nat.le_of_eq rfl) (by decide) (by decide) (by decide) (by decide)
        obtain ⟨rfl, Nq77, e77⟩ := hQ77
        have N77 := Fr.app N71 Nq77
        obtain ⟨fs, hr, hrun, hended, hREW⟩ := X77.leaveW (s := s) hS72 (by rw [e77]; exact hk72) (v := some (.int 1)) (fun h => by rw [Bd.returns] at h; cases h)
        refine ⟨_, _, pre60 _ ?_, hrun, hended, _, _, rfl, ?_, hREW.1, hREW.2.1, hREW.2.2.1, hREW.2.2.2.mono (by decide) (by decide)⟩
        · show Steps p.tables e below (T48.setTop (mkF m 237 #[vi p1, vi p2, vi p3, vi p4, vi ca, vi cb, vi co, vi 0, vi 0, vr b10, vr b29, vr b30, vr b49, .unset, .unset, .unset, .unset, .unset] [])) _
          refine XS.aload X48.here hx rfl (hb hby at_237) rfl rfl ?_
          refine st69.trans ?_
          refine XS.pop X69.here hx rfl (hb hby at_242) rfl rfl ?_
          refine XS.aload X69.here hx rfl (hb hby at_243) rfl rfl ?_
          refine st70 _ ?_
          refine XS.istore X70.here hx rfl (hb hby at_248) rfl (l' := #[vi p1, vi p2, vi p3, vi p4, vi ca, vi cb, vi co, vi 0, vi 0, vr b10, vr b29, vr b30, vr b49, vi 1, .unset, .unset, .unset, .unset]) rfl ?_
          refine XS.aload X70.here hx rfl (hb hby at_250) rfl rfl ?_
          refine st71 _ ?_
          refine XS.istore X71.here hx rfl (hb hby at_255) rfl (l' := #[vi p1, vi p2, vi p3, vi p4, vi ca, vi cb, vi co, vi 0, vi 0, vr b10, vr b29, vr b30, vr b49, vi 1, vi 1, .unset, .unset, .unset]) rfl ?_
          refine XS.aload X71.here hx rfl (hb hby at_257) rfl rfl ?_
          show Steps p.tables e below (T71.setTop (mkF m 259 #[vi p1, vi p2, vi p3, vi p4, vi ca, vi cb, vi co, vi 0, vi 0, vr b10, vr b29, vr b30, vr b49, vi 1, vi 1, .unset, .unset, .unset] [(.ref b49)])) _
          refine st72 _ ?_
          refine st77 _ ?_
          refine XS.astore X77.here hx rfl (hb hby at_264) rfl rfl (l' := #[vi p1, vi p2, vi p3, vi p4, vi ca, vi cb, vi co, vi 0, vi 0, vr b10, vr b29, vr b30, vr b49, vi 1, vi 1, .val .null, .unset, .unset]) rfl ?_
          refine XS.iload X77.here hx rfl (hb hby at_266) rfl ?_
          refine XS.iconst X77.here hx rfl (hb hby at_268) ?_
          refine XS.icmpYes X77.here hx rfl (pc0 := 269) (pc' := 279) rfl (hb hby at_269) rfl (feq ((by decide) : ¬ ((0 : Int32) = (3 : Int32)))).2 (by decide) (by decide) ?_
          refine XS.iload X77.here hx rfl (hb hby at_279) rfl ?_
          refine XS.ifYes X77.here hx rfl (pc0 := 281) (pc' := 291) rfl (hb hby at_281) rfl ((if0 _ _).trans (teq ((by decide) : (0 : Int32) = (0 : Int32))).1) (by decide) (by decide) ?_
          refine XS.aconstNull X77.here hx rfl (hb hby at_291) ?_
          refine XS.astore X77.here hx rfl (hb hby at_292) rfl rfl (l' := #[vi p1, vi p2, vi p3, vi p4, vi ca, vi cb, vi co, vi 0, vi 0, vr b10, vr b29, vr b30, vr b49, vi 1, vi 1, .val .null, .val .null, .unset]) rfl ?_
          show Steps p.tables e below (T77.setTop (mkF m 294 #[vi p1, vi p2, vi p3, vi p4, vi ca, vi cb, vi co, vi 0, vi 0, vr b10, vr b29, vr b30, vr b49, vi 1, vi 1, .val .null, .val .null, .unset] [])) _
          refine XS.aload X77.here hx rfl (hb hby at_294) rfl rfl ?_
          refine XS.ifnonnullNo X77.here hx rfl (hb hby at_296) rfl ?_
          refine XS.aload X77.here hx rfl (hb hby at_299) rfl rfl ?_
          refine XS.ifnonnullNo X77.here hx rfl (hb hby at_301) rfl ?_
          refine XS.iconst X77.here hx rfl (hb hby at_304) ?_
          refine XS.goto X77.here hx rfl (pc0 := 305) (pc' := 319) rfl (hb hby at_305) (by decide) (by decide) ?_
          refine XS.istore X77.here hx rfl (hb hby at_319) rfl (l' := #[vi p1, vi p2, vi p3, vi p4, vi ca, vi cb, vi co, vi 0, vi 0, vr b10, vr b29, vr b30, vr b49, vi 1, vi 1, .val .null, .val .null, vi 1]) rfl ?_
          refine XS.iload X77.here hx rfl (hb hby at_321) rfl ?_
          refine XS.ifNo X77.here hx rfl (hb hby at_323) rfl ((if0 _ _).trans (feq ((by decide) : ¬ ((1 : Int32) = (0 : Int32)))).1) ?_
          refine XS.iload X77.here hx rfl (hb hby at_326) rfl ?_
          show Steps p.tables e below (T77.setTop (mkF m 328 #[vi p1, vi p2, vi p3, vi p4, vi ca, vi cb, vi co, vi 0, vi 0, vr b10, vr b29, vr b30, vr b49, vi 1, vi 1, .val .null, .val .null, vi 1] [(.int 1)])) _
          refine XS.ifNo X77.here hx rfl (hb hby at_328) rfl ((if0 _ _).trans (feq ((by decide) : ¬ ((1 : Int32) = (0 : Int32)))).1) ?_
          refine XS.iload X77.here hx rfl (hb hby at_331) rfl ?_
          refine XS.ifNo X77.here hx rfl (hb hby at_333) rfl ((if0 _ _).trans (feq ((by decide) : ¬ ((1 : Int32) = (0 : Int32)))).1) ?_
          refine XS.iconst X77.here hx rfl (hb hby at_336) ?_
          refine XS.goto X77.here hx rfl (pc0 := 337) (pc' := 341) rfl (hb hby at_337) (by decide) (by decide) ?_
          exact retN X77 hx (t := .boolean) Bd.returns (by simp) (hb hby at_341) hr
        · show Qrm0 Z p1 p2 p3 p4 cs5 w6 k7 h0 n0 _ T77.heap _
          exact ⟨rfl, N77⟩
      · have f79 := (P28_9.keep K48)
        have f80 := (P28_11.keep K48 nin0)
        have f81 := (P28_10.keep K48 nin0)
        have f82 := (P28_17.keep K48 nin0)
        have f83 := (f50.keep K48)
        have f84 := ((P22_1.keep K28 nin0).keep K48 nin0)
        have f85 := ((P22_2.keep K28 nin0).keep K48 nin0)
        have f86 := ((P22_4.keep K28 nin0).keep K48 nin0)
        obtain ⟨cq87, kq87, q87a, q87b, q87c⟩ := isOf hZ rfl P48_0
        obtain ⟨_, _, ⟨T87, L87, k87, n87⟩, -, X87, h287, hg87, ⟨Lc87, hQ87, l87, y87, z87⟩, st87⟩ := X48.virtualBackS hx (y := (⟨"com/example/runqueue/runqueue/Arguments", "nextOption", "()Ljava/lang/String;"⟩ : MethodName)) (z := (⟨"com/example/runqueue/runqueue/Arguments", "nextOption", "()Ljava/lang/String;"⟩ : MethodName)) hown (mvT hZ (W hw 108 rfl)) (mvT hZ (W hw 109 rfl)) (notFace_of_selects (args := #[]) (mvT hZ (W hw 111 rfl))) (mvT hZ (W hw 111 rfl)) (mvT hZ (W hw 110 rfl)) (by decide) (own_backOfSH (s := s) (vm0 := s.vm) (W := 0) (rm20_1 l Z a0 hw [] b49 b30 b32 k34 b10 cs5 b23 k24 (nar .byte ((nar .char (45 : Int32)).toInt8.toInt32)) (nar .byte ((nar .char ca).toInt8.toInt32)) T48.heap n0 O48 P48_2 P48_1 f79 f80 f81 f82 f83 g_b10 S_cs hcs f84 f85 f86 (by decide) (fun q => h5 ((own_b45 ca h0_ca h1_ca).mp q)) P48_0 g_b49 P48_3 P48_4 ne51 ne55 T_SF) hZ (W hw 112 rfl) (W hw 101 rfl) (by decide) (by decide) (own_EW hw) (own_CH.keep KK48 hCH)) q87a q87c (g := (mkF m 239 #[vi p1, vi p2, vi p3, vi p4, vi ca, vi cb, vi co, vi 0, vi 0, vr b10, vr b29, vr b30, vr b49, .unset, .unset, .unset, .unset, .unset] [(.ref b49)])) rfl (by rw [hml]; rfl) (Steps.refl _) (argsL := []) (rest := []) (lenOf pd_29 rfl) rfl (by show 2 * 0 + _ ≤ _; exact Nat.le_of_eq rfl) (hb hby at_239) (fun _ _ => ⟨rfl, rfl, (by decide : 8 + 8 ≤ _), (by decide : 30 + 40 ≤ _)⟩)
        dsimp only [Pt.U, Pt.locs, Pt.cells, Pt.slots] at X87 l87 y87 z87 st87 hQ87 h287 hg87
        subst l87 y87 z87
        obtain ⟨X87, hS87, hZ87, hown87⟩ := rebS (s := s) (vm0 := s.vm) hS0 (show _ ≤ T48.heap.size from (Nat.le_trans (Nat.le_trans (Nat.le_trans (Nat.le_trans (Nat.le_trans (Nat.le_trans (Nat.le_trans (Nat.zero_le _) E10.1) E11.1) (Keep.of_wr W15).1) (Keep.of_wr W18).1) K22.1) K28.1) K48.1)) X87 h287 hg87 hZ hown
        obtain ⟨rfl, Nq87, K87, P87_0, P87_1, P87_2, P87_3, P87_4⟩ := hQ87
        have N87 := Fr.app Nq48 Nq87
        have O87 := O48.keep K87 (allS g_b49 all0)
        obtain ⟨_, T88, L88, X88, hQ88, st88⟩ := cV X87 hx hZ87 hown87 (W hw 214 rfl) (W hw 215 rfl) (notFace_of_selects (args := #[]) (mvT hZ87 (W hw 217 rfl))) (W hw 217 rfl) (W hw 216 rfl) (W hw 218 rfl) (W hw 101 rfl) (by decide) (rm40 l Z a0 hw [] b49 T87.heap n0 O87 P87_4) rfl P87_2 #[vi p1, vi p2, vi p3, vi p4, vi ca, vi cb, vi co, vi 0, vi 0, vr b10, vr b29, vr b30, vr b49, .unset, .unset, .unset, .unset, .unset] [] (by rw [hml]; rfl) (hb hby at_245) pd_30 rfl (W := 0) (Nat.le_of_eq rfl) (by decide) (by decide) (by decide) (by decide)
        obtain ⟨rfl, Nq88, e88⟩ := hQ88
        have N88 := Fr.app N87 Nq88
        obtain ⟨_, T89, L89, X89, hQ89, st89⟩ := cV X88 hx hZ87 hown87 (W hw 214 rfl) (W hw 215 rfl) (notFace_of_selects (args := #[]) (mvT hZ87 (W hw 217 rfl))) (W hw 217 rfl) (W hw 216 rfl) (W hw 218 rfl) (W hw 101 rfl) (by decide) (rm40 l Z a0 hw [] b49 T87.heap n0 O87 P87_4) e88 P87_2 #[vi p1, vi p2, vi p3, vi p4, vi ca, vi cb, vi co, vi 0, vi 0, vr b10, vr b29, vr b30, vr b49, vi 1, .unset, .unset, .unset, .unset] [] (by rw [hml]; rfl) (hb hby at_252) pd_30 rfl (W := 0) (Nat.le_of_eq rfl) (by decide) (by decide) (by decide) (by decide)
        obtain ⟨rfl, Nq89, e89⟩ := hQ89
        have N89 := Fr.app N88 Nq89
        obtain ⟨b90, T90, h90, k90, X90, e90, E90, hS90, hk90, hZ90, hown90, st90⟩ := ldcS (s := s) (vm0 := T87.vm) X89 hx hZ87 hown87 (W hw 219 rfl) (own_wS hw) e89 hS87 (Nat.le_refl _) (g := (mkF m 259 #[vi p1, vi p2, vi p3, vi p4, vi ca, vi cb, vi co, vi 0, vi 0, vr b10, vr b29, vr b30, vr b49, vi 1, vi 1, .unset, .unset, .unset] [(.ref b49)])) rfl (hb hby at_259) (n := 4) (by decide) (by decide) (by decide) (by decide)
        have O90 := O87.ext E90
        have f91 := (P87_1.ext E90)
        have f92 := ((f79.keep K87).ext E90)
        have f93 := ((f80.keep K87 (ninS ne57 nin0)).ext E90)
        have f94 := (P87_0.ext E90)
        have f96 := (P87_2.ext E90)
        obtain ⟨_, T95, L95, X95, hQ95, st95⟩ := cV X90 hx hZ90 hown90 (W hw 220 rfl) (W hw 221 rfl) (notFace_of_selects (args := #[]) (mvT hZ90 (W hw 223 rfl))) (W hw 223 rfl) (W hw 222 rfl) (W hw 224 rfl) (W hw 101 rfl) (by decide) (rm41 l Z a0 hw [] b49 b90 b30 h90 n0 O90 f91 f92 f93 f94) e90 f96 #[vi p1, vi p2, vi p3, vi p4, vi ca, vi cb, vi co, vi 0, vi 0, vr b10, vr b29, vr b30, vr b49, vi 1, vi 1, .unset, .unset, .unset] [] (by rw [hml]; rfl) (hb hby at_261) pd_31 rfl (W := 0) (Nat.le_of_eq rfl) (by decide) (by decide) (by decide) (by decide)
        obtain ⟨rfl, Nq95, e95⟩ := hQ95
        have N95 := Fr.app N89 Nq95
        obtain ⟨fs, hr, hrun, hended, hREW⟩ := X95.leaveW (s := s) hS90 (by rw [e95]; exact hk90) (v := some (.int 1)) (fun h => by rw [Bd.returns] at h; cases h)
        refine ⟨_, _, pre60 _ ?_, hrun, hended, _, _, rfl, ?_, hREW.1, hREW.2.1, hREW.2.2.1, hREW.2.2.2.mono (by decide) (by decide)⟩
        · show Steps p.tables e below (T48.setTop (mkF m 237 #[vi p1, vi p2, vi p3, vi p4, vi ca, vi cb, vi co, vi 0, vi 0, vr b10, vr b29, vr b30, vr b49, .unset, .unset, .unset, .unset, .unset] [])) _
          refine XS.aload X48.here hx rfl (hb hby at_237) rfl rfl ?_
          refine st87.trans ?_
          refine XS.pop X87.here hx rfl (hb hby at_242) rfl rfl ?_
          refine XS.aload X87.here hx rfl (hb hby at_243) rfl rfl ?_
          refine st88 _ ?_
          refine XS.istore X88.here hx rfl (hb hby at_248) rfl (l' := #[vi p1, vi p2, vi p3, vi p4, vi ca, vi cb, vi co, vi 0, vi 0, vr b10, vr b29, vr b30, vr b49, vi 1, .unset, .unset, .unset, .unset]) rfl ?_
          refine XS.aload X88.here hx rfl (hb hby at_250) rfl rfl ?_
          refine st89 _ ?_
          refine XS.istore X89.here hx rfl (hb hby at_255) rfl (l' := #[vi p1, vi p2, vi p3, vi p4, vi ca, vi cb, vi co, vi 0, vi 0, vr b10, vr b29, vr b30, vr b49, vi 1, vi 1, .unset, .unset, .unset]) rfl ?_
          refine XS.aload X89.here hx rfl (hb hby at_257) rfl rfl ?_
          show Steps p.tables e below (T89.setTop (mkF m 259 #[vi p1, vi p2, vi p3, vi p4, vi ca, vi cb, vi co, vi 0, vi 0, vr b10, vr b29, vr b30, vr b49, vi 1, vi 1, .unset, .unset, .unset] [(.ref b49)])) _
          refine st90 _ ?_
          refine st95 _ ?_
          refine XS.astore X95.here hx rfl (hb hby at_264) rfl rfl (l' := #[vi p1, vi p2, vi p3, vi p4, vi ca, vi cb, vi co, vi 0, vi 0, vr b10, vr b29, vr b30, vr b49, vi 1, vi 1, .val .null, .unset, .unset]) rfl ?_
          refine XS.iload X95.here hx rfl (hb hby at_266) rfl ?_
          refine XS.iconst X95.here hx rfl (hb hby at_268) ?_
          refine XS.icmpYes X95.here hx rfl (pc0 := 269) (pc' := 279) rfl (hb hby at_269) rfl (feq ((by decide) : ¬ ((0 : Int32) = (3 : Int32)))).2 (by decide) (by decide) ?_
          refine XS.iload X95.here hx rfl (hb hby at_279) rfl ?_
          refine XS.ifYes X95.here hx rfl (pc0 := 281) (pc' := 291) rfl (hb hby at_281) rfl ((if0 _ _).trans (teq ((by decide) : (0 : Int32) = (0 : Int32))).1) (by decide) (by decide) ?_
          refine XS.aconstNull X95.here hx rfl (hb hby at_291) ?_
          refine XS.astore X95.here hx rfl (hb hby at_292) rfl rfl (l' := #[vi p1, vi p2, vi p3, vi p4, vi ca, vi cb, vi co, vi 0, vi 0, vr b10, vr b29, vr b30, vr b49, vi 1, vi 1, .val .null, .val .null, .unset]) rfl ?_
          show Steps p.tables e below (T95.setTop (mkF m 294 #[vi p1, vi p2, vi p3, vi p4, vi ca, vi cb, vi co, vi 0, vi 0, vr b10, vr b29, vr b30, vr b49, vi 1, vi 1, .val .null, .val .null, .unset] [])) _
          refine XS.aload X95.here hx rfl (hb hby at_294) rfl rfl ?_
          refine XS.ifnonnullNo X95.here hx rfl (hb hby at_296) rfl ?_
          refine XS.aload X95.here hx rfl (hb hby at_299) rfl rfl ?_
          refine XS.ifnonnullNo X95.here hx rfl (hb hby at_301) rfl ?_
          refine XS.iconst X95.here hx rfl (hb hby at_304) ?_
          refine XS.goto X95.here hx rfl (pc0 := 305) (pc' := 319) rfl (hb hby at_305) (by decide) (by decide) ?_
          refine XS.istore X95.here hx rfl (hb hby at_319) rfl (l' := #[vi p1, vi p2, vi p3, vi p4, vi ca, vi cb, vi co, vi 0, vi 0, vr b10, vr b29, vr b30, vr b49, vi 1, vi 1, .val .null, .val .null, vi 1]) rfl ?_
          refine XS.iload X95.here hx rfl (hb hby at_321) rfl ?_
          refine XS.ifNo X95.here hx rfl (hb hby at_323) rfl ((if0 _ _).trans (feq ((by decide) : ¬ ((1 : Int32) = (0 : Int32)))).1) ?_
          refine XS.iload X95.here hx rfl (hb hby at_326) rfl ?_
          show Steps p.tables e below (T95.setTop (mkF m 328 #[vi p1, vi p2, vi p3, vi p4, vi ca, vi cb, vi co, vi 0, vi 0, vr b10, vr b29, vr b30, vr b49, vi 1, vi 1, .val .null, .val .null, vi 1] [(.int 1)])) _
          refine XS.ifNo X95.here hx rfl (hb hby at_328) rfl ((if0 _ _).trans (feq ((by decide) : ¬ ((1 : Int32) = (0 : Int32)))).1) ?_
          refine XS.iload X95.here hx rfl (hb hby at_331) rfl ?_
          refine XS.ifNo X95.here hx rfl (hb hby at_333) rfl ((if0 _ _).trans (feq ((by decide) : ¬ ((1 : Int32) = (0 : Int32)))).1) ?_
          refine XS.iconst X95.here hx rfl (hb hby at_336) ?_
          refine XS.goto X95.here hx rfl (pc0 := 337) (pc' := 341) rfl (hb hby at_337) (by decide) (by decide) ?_
          exact retN X95 hx (t := .boolean) Bd.returns (by simp) (hb hby at_341) hr
        · show Qrm0 Z p1 p2 p3 p4 cs5 w6 k7 h0 n0 _ T95.heap _
          exact ⟨rfl, N95⟩
    · obtain ⟨T97, h97, X97, e97, E97, A97, D97, U97, st97⟩ := newO X0 hx hZ hown (W hw 0 rfl) (W hw 1 rfl) (W hw 2 rfl) e0 (g := (mkF m 53 #[vi p1, vi p2, vi p3, vi p4, vi ca, vi cb, vi co, vi 0, vi 1, .unset, .unset, .unset, .unset, .unset, .unset, .unset, .unset, .unset] [])) rfl (hb hby at_53) (by decide) (by decide)
      obtain ⟨b97, g97⟩ : ∃ z, z = h0.size := ⟨_, rfl⟩
      rw [← g97] at A97 D97 U97 st97
      have g_b97 := own_born O0 (own_eqle g97)
      have sz_b97 := Nat.le_trans (Keep.refl h0 []).1 (own_eqle g97)
      have K97 := (Keep.refl h0 []).ext E97
      have O97 := O0.ext E97
      have F97_coder : Fld Z h97 b97 "java/lang/String" "coder" "B" (.int 0) := D97 (Or.inr (W hw 27 rfl)) (ty := .byte) (by decide)
      have F97_value : Fld Z h97 b97 "java/lang/String" "value" "[B" .null := D97 (Or.inr (W hw 29 rfl)) (ty := (.array .byte)) (by decide)
      obtain ⟨T98, h98, k98, X98, e98, E98, A98, B98, st98⟩ := newPE X97 hx hZ (W hw 3 rfl) e97 (g := (mkF m 58 #[vi p1, vi p2, vi p3, vi p4, vi ca, vi cb, vi co, vi 0, vi 1, .unset, .unset, .unset, .unset, .unset, .unset, .unset, .unset, .unset] [(.int 2), (.ref b97), (.ref b97)])) rfl (hb hby at_58) rfl (by decide) (cap := 2) (by decide) (by decide) (by decide) (by decide) (ad := "[C") (by decide)
      obtain ⟨b98, g98⟩ : ∃ z, z = h97.size := ⟨_, rfl⟩
      rw [← g98] at A98 B98 st98
      have ne99 := (own_ltn A97.lt (own_eqle g98))
      have g_b98 := own_born O97 (own_eqle g98)
      have sz_b98 := Nat.le_trans K97.1 (own_eqle g98)
      have K98 := K97.ext E98
      have O98 := O97.ext E98
      have V98 : Arv Z h98 b98 k98 .char (2 : Int32) [] (.int 0) := Arv.new A98 (by decide)
      have V100 : Arv Z h98 b98 k98 .char (2 : Int32) [(.int 0)] (.int 0) := V98.pad (pad_rep [] (.int 0) 1)
      obtain ⟨cl101, Ar101, q101, S101, M101, Hs101, G101⟩ := id V100
      have hin101 : ¬ ((0 : Int32) < 0 ∨ cl101.slots.size ≤ ((0 : Int32)).toNatClampNeg) := inb_of S101 ⟨by decide, by decide⟩
      obtain ⟨T102, h102, X102, e102, W102, st102⟩ := stC X98 hx hZ e98 Ar101 (j := (0 : Int32)) hin101 (g := (mkF m 64 #[vi p1, vi p2, vi p3, vi p4, vi ca, vi cb, vi co, vi 0, vi 1, .unset, .unset, .unset, .unset, .unset, .unset, .unset, .unset, .unset] [(.int 45), (.int 0), (.ref b98), (.ref b98), (.ref b97), (.ref b97)])) rfl rfl (hb hby at_64)
      have K102 := K98.wr W102 (Or.inr sz_b98)
      have O102 := O98.wr W102 g_b98
      have N102 := Fr.snoc X102 N0 g_b98
      have Vw102 : Arv Z h102 b98 k98 .char (2 : Int32) [(.int (nar .char (45 : Int32)))] (.int 0) := Arv.set Ar101 q101 S101 M101 Hs101 G101 (fits_nar_char _) W102 0 rfl (Nat.le_of_ble_eq_true rfl)
      have V103 : Arv Z h102 b98 k98 .char (2 : Int32) [(.int (nar .char (45 : Int32))), (.int 0)] (.int 0) := Vw102.pad (pad_rep [(.int (nar .char (45 : Int32)))] (.int 0) 1)
      obtain ⟨cl104, Ar104, q104, S104, M104, Hs104, G104⟩ := id V103
      have hin104 : ¬ ((1 : Int32) < 0 ∨ cl104.slots.size ≤ ((1 : Int32)).toNatClampNeg) := inb_of S104 ⟨by decide, by decide⟩
      obtain ⟨T105, h105, X105, e105, W105, st105⟩ := stC X102 hx hZ e102 Ar104 (j := (1 : Int32)) hin104 (g := (mkF m 69 #[vi p1, vi p2, vi p3, vi p4, vi ca, vi cb, vi co, vi 0, vi 1, .unset, .unset, .unset, .unset, .unset, .unset, .unset, .unset, .unset] [(.int ca), (.int 1), (.ref b98), (.ref b98), (.ref b97), (.ref b97)])) rfl rfl (hb hby at_69)
      have K105 := K102.wr W105 (Or.inr sz_b98)
      have O105 := O102.wr W105 g_b98
      have N105 := Fr.snoc X105 N102 g_b98
      have Vw105 : Arv Z h105 b98 k98 .char (2 : Int32) [(.int (nar .char (45 : Int32))), (.int (nar .char ca))] (.int 0) := Arv.set Ar104 q104 S104 M104 Hs104 G104 (fits_nar_char _) W105 1 rfl (Nat.le_of_ble_eq_true rfl)
      have f106 := (((A97.ext E98).wr W102).wr W105)
      have f107 := (((F97_coder.ext E98).other W102 (Or.inl ne99)).other W105 (Or.inl ne99))
      have f108 := (((F97_value.ext E98).other W102 (Or.inl ne99)).other W105 (Or.inl ne99))
      obtain ⟨_, T109, L109, X109, hQ109, st109⟩ := cI X105 hx hZ hown (W hw 4 rfl) (W hw 5 rfl) (W hw 6 rfl) (W hw 2 rfl) rfl (by decide) (rm1 l Z a0 hw [] b97 b98 k98 (nar .char (45 : Int32)) (nar .char ca) cs5 h105 n0 O105 Vw105 S_cs hcs (by decide) (own_c1 ca h0_ca h1_ca) f106 f107 g_b97 f108) e105 #[vi p1, vi p2, vi p3, vi p4, vi ca, vi cb, vi co, vi 0, vi 1, .unset, .unset, .unset, .unset, .unset, .unset, .unset, .unset, .unset] [(.ref b97)] (by rw [hml]; rfl) (hb hby at_70) pd_6 rfl (W := 1) (Nat.le_of_eq rfl) (by decide) (by decide) (by decide) (by decide)
      obtain ⟨b110, k111, rfl, Nq109, K109, sq109_b110, P109_0, P109_1, P109_2, P109_3, P109_4⟩ := hQ109
      have N109 := Fr.app N105 Nq109
      have KK109 := Keep.trans (h := h105) K105 K109 (allS (Or.inr sz_b97) all0)
      have O109 := O105.keep K109 (allS g_b97 all0)
      obtain ⟨T115, Lc115, X115, Nq115, hQ115⟩ := sg0_189_213 hw p1 p2 p3 p4 ca cb co (0 : Int32) (1 : Int32) b97 cs5 w6 k7 T109.heap n0 O109 S_cs hcs h1_co S_D V_D P109_0 X109 hx hZ hby hml hown rfl N109 (by decide) (by decide) (by decide) (by decide)
      obtain ⟨b116, b117, b118, b119, k120, k121, K115, sq115_b116, sq115_b117, sq115_b118, sq115_b119, P115_0, P115_1, P115_2, P115_3, P115_4, P115_5, P115_6, P115_7, P115_8, P115_9, P115_10, P115_11, P115_12, P115_13, P115_14, P115_15, P115_16, P115_17, st115⟩ := hQ115
      have ne126 := (own_ltn P109_0.lt sq115_b117)
      have ne128 := (own_ltn P109_3.lt sq115_b117)
      have g_b117 := own_born O109 sq115_b117
      have sz_b117 := Nat.le_trans KK109.1 sq115_b117
      have ne132 := (own_ltn P109_0.lt sq115_b119)
      have ne134 := (own_ltn P109_3.lt sq115_b119)
      have g_b119 := own_born O109 sq115_b119
      have sz_b119 := Nat.le_trans KK109.1 sq115_b119
      have KK115 := Keep.trans (h := T109.heap) KK109 K115 all0
      have O115 := O109.keep K115 all0
      obtain ⟨T135, Lc135, X135, Nq135, hQ135⟩ := sg0_218_226 hw p1 p2 p3 p4 ca cb co (0 : Int32) (1 : Int32) b97 b116 b117 b119 k121 T115.heap n0 O115 P115_9 P115_12 g_b117 P115_10 P115_11 P115_17 g_b119 P115_6 P115_16 P115_15 P115_4 X115 hx hZ hby hml hown rfl Nq115 (by decide) (by decide) (by decide) (by decide)
      obtain ⟨K135, P135_0, P135_1, P135_2, P135_3, P135_4, P135_5, st135⟩ := hQ135
      have KK135 := Keep.trans (h := T115.heap) KK115 K135 (allS (Or.inr sz_b117) (allS (Or.inr sz_b119) all0))
      have O135 := O115.keep K135 (allS g_b117 (allS g_b119 all0))
      obtain ⟨T136, Lc136, X136, Nq136, hQ136⟩ := sg0_226_237 hw p1 p2 p3 p4 ca cb co (0 : Int32) (1 : Int32) b97 b116 b117 T135.heap n0 O135  X135 hx hZ hby hml hown rfl Nq135 (by decide) (by decide) (by decide) (by decide)
      obtain ⟨b137, K136, sq136_b137, P136_0, P136_1, P136_2, P136_3, P136_4, st136⟩ := hQ136
      have f138 := ((P109_0.keep K115).keep K135)
      have ne139 := (own_ltn f138.lt sq136_b137)
      have f142 := ((P109_3.keep K115).keep K135)
      have ne143 := (own_ltn f142.lt sq136_b137)
      have f144 := (P115_6.keep K135)
      have ne146 := (own_ltn P135_0.lt sq136_b137)
      have ne149 := (own_ltn P135_4.lt sq136_b137)
      have g_b137 := own_born O135 sq136_b137
      have KK136 := Keep.trans (h := T135.heap) KK135 K136 all0
      have O136 := O135.keep K136 all0
      have pre150 : ∀ t, Steps p.tables e below (T136.setTop (mkF m 237 #[vi p1, vi p2, vi p3, vi p4, vi ca, vi cb, vi co, vi 0, vi 1, vr b97, vr b116, vr b117, vr b137, .unset, .unset, .unset, .unset, .unset] [])) t → Steps p.tables e below (s₁.setTop (entryFrame m #[(.int p1), (.int p2), (.int p3), (.int p4)] maxLocals)) t := fun t kt => pre9 t (by
        show Steps p.tables e below (s₁.setTop (mkF m 29 #[vi p1, vi p2, vi p3, vi p4, vi ca, vi cb, vi co, vi 0, .unset, .unset, .unset, .unset, .unset, .unset, .unset, .unset, .unset, .unset] [])) _
        refine XS.iloadN X0.here hx rfl (hb hby at_29) rfl ?_
        refine XS.iconst X0.here hx rfl (hb hby at_30) ?_
        refine XS.iand X0.here hx rfl (hb hby at_31) rfl ?_
        refine XS.ifNo X0.here hx rfl (hb hby at_32) rfl ((if0 _ _).trans (feq (h4 : ¬ ((p4 &&& (4 : Int32)) = (0 : Int32)))).1) ?_
        refine XS.iload X0.here hx rfl (hb hby at_35) rfl ?_
        refine XS.iconst X0.here hx rfl (hb hby at_37) ?_
        refine XS.icmpNo X0.here hx rfl (hb hby at_38) rfl (feq ((by decide) : ¬ ((0 : Int32) = (3 : Int32)))).1 ?_
        refine XS.iconst X0.here hx rfl (hb hby at_41) ?_
        refine XS.goto X0.here hx rfl (pc0 := 42) (pc' := 46) rfl (hb hby at_42) (by decide) (by decide) ?_
        refine XS.istore X0.here hx rfl (hb hby at_46) rfl (l' := #[vi p1, vi p2, vi p3, vi p4, vi ca, vi cb, vi co, vi 0, vi 1, .unset, .unset, .unset, .unset, .unset, .unset, .unset, .unset, .unset]) rfl ?_
        show Steps p.tables e below (s₁.setTop (mkF m 48 #[vi p1, vi p2, vi p3, vi p4, vi ca, vi cb, vi co, vi 0, vi 1, .unset, .unset, .unset, .unset, .unset, .unset, .unset, .unset, .unset] [])) _
        refine XS.iload X0.here hx rfl (hb hby at_48) rfl ?_
        refine XS.ifNo X0.here hx rfl (hb hby at_50) rfl ((if0 _ _).trans (teq ((by decide) : (0 : Int32) = (0 : Int32))).2) ?_
        refine st97 _ ?_
        refine XS.dup X97.here hx rfl (hb hby at_56) rfl rfl ?_
        refine XS.iconst X97.here hx rfl (hb hby at_57) ?_
        refine st98 _ ?_
        refine XS.dup X98.here hx rfl (hb hby at_60) rfl rfl ?_
        refine XS.iconst X98.here hx rfl (hb hby at_61) ?_
        refine XS.bipush X98.here hx rfl (hb hby at_62) ?_
        refine st102 _ ?_
        show Steps p.tables e below (T102.setTop (mkF m 65 #[vi p1, vi p2, vi p3, vi p4, vi ca, vi cb, vi co, vi 0, vi 1, .unset, .unset, .unset, .unset, .unset, .unset, .unset, .unset, .unset] [(.ref b98), (.ref b97), (.ref b97)])) _
        refine XS.dup X102.here hx rfl (hb hby at_65) rfl rfl ?_
        refine XS.iconst X102.here hx rfl (hb hby at_66) ?_
        refine XS.iload X102.here hx rfl (hb hby at_67) rfl ?_
        refine st105 _ ?_
        refine st109 _ ?_
        refine XS.astore X109.here hx rfl (hb hby at_73) rfl rfl (l' := #[vi p1, vi p2, vi p3, vi p4, vi ca, vi cb, vi co, vi 0, vi 1, vr b97, .unset, .unset, .unset, .unset, .unset, .unset, .unset, .unset]) rfl ?_
        refine XS.goto X109.here hx rfl (pc0 := 75) (pc' := 189) rfl (hb hby at_75) (by decide) (by decide) ?_
        refine st115 _ ?_
        refine XS.iload X115.here hx rfl (hb hby at_213) rfl ?_
        refine XS.ifNo X115.here hx rfl (hb hby at_215) rfl ((if0 _ _).trans (feq ((by decide) : ¬ ((1 : Int32) = (0 : Int32)))).1) ?_
        show Steps p.tables e below (T115.setTop (mkF m 218 #[vi p1, vi p2, vi p3, vi p4, vi ca, vi cb, vi co, vi 0, vi 1, vr b97, vr b116, vr b117, .unset, .unset, .unset, .unset, .unset, .unset] [])) _
        refine st135 _ ?_
        refine st136 _ ?_
        exact kt)
      by_cases h5 : ca = (45 : Int32)
      · have f151 := (P135_0.keep K136)
        have f152 := (P135_1.keep K136 nin0)
        have f153 := (P135_3.keep K136 nin0)
        have f154 := (P135_5.keep K136 nin0)
        have f155 := (f138.keep K136)
        have f156 := (((P109_1.keep K115 nin0).keep K135 (ninS ne126 (ninS ne132 nin0))).keep K136 nin0)
        have f157 := (((P109_2.keep K115 nin0).keep K135 (ninS ne126 (ninS ne132 nin0))).keep K136 nin0)
        have f158 := (((P109_4.keep K115 nin0).keep K135 (ninS ne128 (ninS ne134 nin0))).keep K136 nin0)
        obtain ⟨cq159, kq159, q159a, q159b, q159c⟩ := isOf hZ rfl P136_0
        obtain ⟨_, _, ⟨T159, L159, k159, n159⟩, -, X159, h2159, hg159, ⟨Lc159, hQ159, l159, y159, z159⟩, st159⟩ := X136.virtualBackS hx (y := (⟨"com/example/runqueue/runqueue/Arguments", "nextOption", "()Ljava/lang/String;"⟩ : MethodName)) (z := (⟨"com/example/runqueue/runqueue/Arguments", "nextOption", "()Ljava/lang/String;"⟩ : MethodName)) hown (mvT hZ (W hw 108 rfl)) (mvT hZ (W hw 109 rfl)) (notFace_of_selects (args := #[]) (mvT hZ (W hw 111 rfl))) (mvT hZ (W hw 111 rfl)) (mvT hZ (W hw 110 rfl)) (by decide) (own_backOfSH (s := s) (vm0 := s.vm) (W := 0) (rm20_2 l Z a0 hw [] b137 b117 b119 k121 b97 b116 cs5 b110 k111 (nar .byte ((nar .char (45 : Int32)).toInt8.toInt32)) (nar .byte ((nar .char ca).toInt8.toInt32)) T136.heap n0 O136 P136_2 P136_1 f151 f152 f153 f154 f155 g_b97 S_cs hcs f156 f157 f158 (by decide) ((own_b45 ca h0_ca h1_ca).mpr h5) P136_0 g_b137 P136_3 P136_4) hZ (W hw 112 rfl) (W hw 101 rfl) (by decide) (by decide) (own_EW hw) (own_CH.keep KK136 hCH)) q159a q159c (g := (mkF m 239 #[vi p1, vi p2, vi p3, vi p4, vi ca, vi cb, vi co, vi 0, vi 1, vr b97, vr b116, vr b117, vr b137, .unset, .unset, .unset, .unset, .unset] [(.ref b137)])) rfl (by rw [hml]; rfl) (Steps.refl _) (argsL := []) (rest := []) (lenOf pd_29 rfl) rfl (by show 2 * 0 + _ ≤ _; exact Nat.le_of_eq rfl) (hb hby at_239) (fun _ _ => ⟨rfl, rfl, (by decide : 8 + 2 ≤ _), (by decide : 30 + 12 ≤ _)⟩)
        dsimp only [Pt.U, Pt.locs, Pt.cells, Pt.slots] at X159 l159 y159 z159 st159 hQ159 h2159 hg159
        subst l159 y159 z159
        obtain ⟨X159, hS159, hZ159, hown159⟩ := rebS (s := s) (vm0 := s.vm) hS0 (show _ ≤ T136.heap.size from (Nat.le_trans (Nat.le_trans (Nat.le_trans (Nat.le_trans (Nat.le_trans (Nat.le_trans (Nat.le_trans (Nat.le_trans (Nat.zero_le _) E97.1) E98.1) (Keep.of_wr W102).1) (Keep.of_wr W105).1) K109.1) K115.1) K135.1) K136.1)) X159 h2159 hg159 hZ hown
        obtain ⟨rfl, Nq159, K159, P159_0, P159_1, P159_2, P159_3, P159_4⟩ := hQ159
        have N159 := Fr.app Nq136 Nq159
        have O159 := O136.keep K159 (allS g_b137 all0)
        obtain ⟨_, T160, L160, X160, hQ160, st160⟩ := cV X159 hx hZ159 hown159 (W hw 214 rfl) (W hw 215 rfl) (notFace_of_selects (args := #[]) (mvT hZ159 (W hw 217 rfl))) (W hw 217 rfl) (W hw 216 rfl) (W hw 218 rfl) (W hw 101 rfl) (by decide) (rm40 l Z a0 hw [] b137 T159.heap n0 O159 P159_4) rfl P159_2 #[vi p1, vi p2, vi p3, vi p4, vi ca, vi cb, vi co, vi 0, vi 1, vr b97, vr b116, vr b117, vr b137, .unset, .unset, .unset, .unset, .unset] [] (by rw [hml]; rfl) (hb hby at_245) pd_30 rfl (W := 0) (Nat.le_of_eq rfl) (by decide) (by decide) (by decide) (by decide)
        obtain ⟨rfl, Nq160, e160⟩ := hQ160
        have N160 := Fr.app N159 Nq160
        obtain ⟨_, T161, L161, X161, hQ161, st161⟩ := cV X160 hx hZ159 hown159 (W hw 214 rfl) (W hw 215 rfl) (notFace_of_selects (args := #[]) (mvT hZ159 (W hw 217 rfl))) (W hw 217 rfl) (W hw 216 rfl) (W hw 218 rfl) (W hw 101 rfl) (by decide) (rm40 l Z a0 hw [] b137 T159.heap n0 O159 P159_4) e160 P159_2 #[vi p1, vi p2, vi p3, vi p4, vi ca, vi cb, vi co, vi 0, vi 1, vr b97, vr b116, vr b117, vr b137, vi 1, .unset, .unset, .unset, .unset] [] (by rw [hml]; rfl) (hb hby at_252) pd_30 rfl (W := 0) (Nat.le_of_eq rfl) (by decide) (by decide) (by decide) (by decide)
        obtain ⟨rfl, Nq161, e161⟩ := hQ161
        have N161 := Fr.app N160 Nq161
        obtain ⟨b162, T162, h162, k162, X162, e162, E162, hS162, hk162, hZ162, hown162, st162⟩ := ldcS (s := s) (vm0 := T159.vm) X161 hx hZ159 hown159 (W hw 219 rfl) (own_wS hw) e161 hS159 (Nat.le_refl _) (g := (mkF m 259 #[vi p1, vi p2, vi p3, vi p4, vi ca, vi cb, vi co, vi 0, vi 1, vr b97, vr b116, vr b117, vr b137, vi 1, vi 1, .unset, .unset, .unset] [(.ref b137)])) rfl (hb hby at_259) (n := 4) (by decide) (by decide) (by decide) (by decide)
        have O162 := O159.ext E162
        have f163 := (P159_1.ext E162)
        have f164 := ((f151.keep K159).ext E162)
        have f165 := ((f152.keep K159 (ninS ne146 nin0)).ext E162)
        have f166 := (P159_0.ext E162)
        have f167 := ((f153.keep K159 (ninS ne146 nin0)).ext E162)
        have f168 := ((f154.keep K159 (ninS ne149 nin0)).ext E162)
        have f169 := (((f144.keep K136).keep K159).ext E162)
        have f171 := (P159_2.ext E162)
        obtain ⟨_, T170, L170, X170, hQ170, st170⟩ := cV X162 hx hZ162 hown162 (W hw 220 rfl) (W hw 221 rfl) (notFace_of_selects (args := #[]) (mvT hZ162 (W hw 223 rfl))) (W hw 223 rfl) (W hw 222 rfl) (W hw 224 rfl) (W hw 101 rfl) (by decide) (rm41_1 l Z a0 hw [] b137 b162 b117 b119 k121 b97 b116 h162 n0 O162 f163 f164 f165 f166 f167 f168 f169) e162 f171 #[vi p1, vi p2, vi p3, vi p4, vi ca, vi cb, vi co, vi 0, vi 1, vr b97, vr b116, vr b117, vr b137, vi 1, vi 1, .unset, .unset, .unset] [] (by rw [hml]; rfl) (hb hby at_261) pd_31 rfl (W := 0) (Nat.le_of_eq rfl) (by decide) (by decide) (by decide) (by decide)
        obtain ⟨rfl, Nq170, e170⟩ := hQ170
        have N170 := Fr.app N161 Nq170
        obtain ⟨_, T172, L172, X172, hQ172, st172⟩ := cV X170 hx hZ162 hown162 (W hw 238 rfl) (W hw 150 rfl) (notFace_of_selects (args := #[]) (mvT hZ162 (W hw 152 rfl))) (W hw 152 rfl) (W hw 151 rfl) (W hw 153 rfl) (W hw 2 rfl) (by decide) (rm26_3 l Z a0 hw [] b116 h162 n0 O162 ) e170 f169 #[vi p1, vi p2, vi p3, vi p4, vi ca, vi cb, vi co, vi 0, vi 1, vr b97, vr b116, vr b117, vr b137, vi 1, vi 1, vr b116, vr b116, .unset] [] (by rw [hml]; rfl) (hb hby at_316) pd_20 rfl (W := 0) (Nat.le_of_eq rfl) (by decide) (by decide) (by decide) (by decide)
        obtain ⟨rfl, Nq172, e172⟩ := hQ172
        have N172 := Fr.app N170 Nq172
        obtain ⟨fs, hr, hrun, hended, hREW⟩ := X172.leaveW (s := s) hS162 (by rw [e172]; exact hk162) (v := some (.int 1)) (fun h => by rw [Bd.returns] at h; cases h)
        refine ⟨_, _, pre150 _ ?_, hrun, hended, _, _, rfl, ?_, hREW.1, hREW.2.1, hREW.2.2.1, hREW.2.2.2.mono (by decide) (by decide)⟩
        · show Steps p.tables e below (T136.setTop (mkF m 237 #[vi p1, vi p2, vi p3, vi p4, vi ca, vi cb, vi co, vi 0, vi 1, vr b97, vr b116, vr b117, vr b137, .unset, .unset, .unset, .unset, .unset] [])) _
          refine XS.aload X136.here hx rfl (hb hby at_237) rfl rfl ?_
          refine st159.trans ?_
          refine XS.pop X159.here hx rfl (hb hby at_242) rfl rfl ?_
          refine XS.aload X159.here hx rfl (hb hby at_243) rfl rfl ?_
          refine st160 _ ?_
          refine XS.istore X160.here hx rfl (hb hby at_248) rfl (l' := #[vi p1, vi p2, vi p3, vi p4, vi ca, vi cb, vi co, vi 0, vi 1, vr b97, vr b116, vr b117, vr b137, vi 1, .unset, .unset, .unset, .unset]) rfl ?_
          refine XS.aload X160.here hx rfl (hb hby at_250) rfl rfl ?_
          refine st161 _ ?_
          refine XS.istore X161.here hx rfl (hb hby at_255) rfl (l' := #[vi p1, vi p2, vi p3, vi p4, vi ca, vi cb, vi co, vi 0, vi 1, vr b97, vr b116, vr b117, vr b137, vi 1, vi 1, .unset, .unset, .unset]) rfl ?_
          refine XS.aload X161.here hx rfl (hb hby at_257) rfl rfl ?_
          show Steps p.tables e below (T161.setTop (mkF m 259 #[vi p1, vi p2, vi p3, vi p4, vi ca, vi cb, vi co, vi 0, vi 1, vr b97, vr b116, vr b117, vr b137, vi 1, vi 1, .unset, .unset, .unset] [(.ref b137)])) _
          refine st162 _ ?_
          refine st170 _ ?_
          refine XS.astore X170.here hx rfl (hb hby at_264) rfl rfl (l' := #[vi p1, vi p2, vi p3, vi p4, vi ca, vi cb, vi co, vi 0, vi 1, vr b97, vr b116, vr b117, vr b137, vi 1, vi 1, vr b116, .unset, .unset]) rfl ?_
          refine XS.iload X170.here hx rfl (hb hby at_266) rfl ?_
          refine XS.iconst X170.here hx rfl (hb hby at_268) ?_
          refine XS.icmpYes X170.here hx rfl (pc0 := 269) (pc' := 279) rfl (hb hby at_269) rfl (feq ((by decide) : ¬ ((0 : Int32) = (3 : Int32)))).2 (by decide) (by decide) ?_
          refine XS.iload X170.here hx rfl (hb hby at_279) rfl ?_
          refine XS.ifNo X170.here hx rfl (hb hby at_281) rfl ((if0 _ _).trans (feq ((by decide) : ¬ ((1 : Int32) = (0 : Int32)))).1) ?_
          refine XS.aload X170.here hx rfl (hb hby at_284) rfl rfl ?_
          refine XS.astore X170.here hx rfl (hb hby at_286) rfl rfl (l' := #[vi p1, vi p2, vi p3, vi p4, vi ca, vi cb, vi co, vi 0, vi 1, vr b97, vr b116, vr b117, vr b137, vi 1, vi 1, vr b116, vr b116, .unset]) rfl ?_
          show Steps p.tables e below (T170.setTop (mkF m 288 #[vi p1, vi p2, vi p3, vi p4, vi ca, vi cb, vi co, vi 0, vi 1, vr b97, vr b116, vr b117, vr b137, vi 1, vi 1, vr b116, vr b116, .unset] [])) _
          refine XS.goto X170.here hx rfl (pc0 := 288) (pc' := 294) rfl (hb hby at_288) (by decide) (by decide) ?_
          refine XS.aload X170.here hx rfl (hb hby at_294) rfl rfl ?_
          refine XS.ifnonnullYes X170.here hx rfl (pc0 := 296) (pc' := 312) rfl (hb hby at_296) rfl (by decide) (by decide) ?_
          refine XS.aload X170.here hx rfl (hb hby at_312) rfl rfl ?_
          refine XS.aload X170.here hx rfl (hb hby at_314) rfl rfl ?_
          refine st172 _ ?_
          refine XS.istore X172.here hx rfl (hb hby at_319) rfl (l' := #[vi p1, vi p2, vi p3, vi p4, vi ca, vi cb, vi co, vi 0, vi 1, vr b97, vr b116, vr b117, vr b137, vi 1, vi 1, vr b116, vr b116, vi 1]) rfl ?_
          refine XS.iload X172.here hx rfl (hb hby at_321) rfl ?_
          refine XS.ifNo X172.here hx rfl (hb hby at_323) rfl ((if0 _ _).trans (feq ((by decide) : ¬ ((1 : Int32) = (0 : Int32)))).1) ?_
          refine XS.iload X172.here hx rfl (hb hby at_326) rfl ?_
          show Steps p.tables e below (T172.setTop (mkF m 328 #[vi p1, vi p2, vi p3, vi p4, vi ca, vi cb, vi co, vi 0, vi 1, vr b97, vr b116, vr b117, vr b137, vi 1, vi 1, vr b116, vr b116, vi 1] [(.int 1)])) _
          refine XS.ifNo X172.here hx rfl (hb hby at_328) rfl ((if0 _ _).trans (feq ((by decide) : ¬ ((1 : Int32) = (0 : Int32)))).1) ?_
          refine XS.iload X172.here hx rfl (hb hby at_331) rfl ?_
          refine XS.ifNo X172.here hx rfl (hb hby at_333) rfl ((if0 _ _).trans (feq ((by decide) : ¬ ((1 : Int32) = (0 : Int32)))).1) ?_
          refine XS.iconst X172.here hx rfl (hb hby at_336) ?_
          refine XS.goto X172.here hx rfl (pc0 := 337) (pc' := 341) rfl (hb hby at_337) (by decide) (by decide) ?_
          exact retN X172 hx (t := .boolean) Bd.returns (by simp) (hb hby at_341) hr
        · show Qrm0 Z p1 p2 p3 p4 cs5 w6 k7 h0 n0 _ T172.heap _
          exact ⟨rfl, N172⟩
      · have f173 := (P135_0.keep K136)
        have f174 := (P135_1.keep K136 nin0)
        have f175 := (P135_3.keep K136 nin0)
        have f176 := (P135_5.keep K136 nin0)
        have f177 := (f138.keep K136)
        have f178 := (((P109_1.keep K115 nin0).keep K135 (ninS ne126 (ninS ne132 nin0))).keep K136 nin0)
        have f179 := (((P109_2.keep K115 nin0).keep K135 (ninS ne126 (ninS ne132 nin0))).keep K136 nin0)
        have f180 := (((P109_4.keep K115 nin0).keep K135 (ninS ne128 (ninS ne134 nin0))).keep K136 nin0)
        obtain ⟨cq181, kq181, q181a, q181b, q181c⟩ := isOf hZ rfl P136_0
        obtain ⟨_, _, ⟨T181, L181, k181, n181⟩, -, X181, h2181, hg181, ⟨Lc181, hQ181, l181, y181, z181⟩, st181⟩ := X136.virtualBackS hx (y := (⟨"com/example/runqueue/runqueue/Arguments", "nextOption", "()Ljava/lang/String;"⟩ : MethodName)) (z := (⟨"com/example/runqueue/runqueue/Arguments", "nextOption", "()Ljava/lang/String;"⟩ : MethodName)) hown (mvT hZ (W hw 108 rfl)) (mvT hZ (W hw 109 rfl)) (notFace_of_selects (args := #[]) (mvT hZ (W hw 111 rfl))) (mvT hZ (W hw 111 rfl)) (mvT hZ (W hw 110 rfl)) (by decide) (own_backOfSH (s := s) (vm0 := s.vm) (W := 0) (rm20_3 l Z a0 hw [] b137 b117 b119 k121 b97 b116 cs5 b110 k111 (nar .byte ((nar .char (45 : Int32)).toInt8.toInt32)) (nar .byte ((nar .char ca).toInt8.toInt32)) T136.heap n0 O136 P136_2 P136_1 f173 f174 f175 f176 f177 g_b97 S_cs hcs f178 f179 f180 (by decide) (fun q => h5 ((own_b45 ca h0_ca h1_ca).mp q)) P136_0 g_b137 P136_3 P136_4 ne139 ne143 T_SF) hZ (W hw 112 rfl) (W hw 101 rfl) (by decide) (by decide) (own_EW hw) (own_CH.keep KK136 hCH)) q181a q181c (g := (mkF m 239 #[vi p1, vi p2, vi p3, vi p4, vi ca, vi cb, vi co, vi 0, vi 1, vr b97, vr b116, vr b117, vr b137, .unset, .unset, .unset, .unset, .unset] [(.ref b137)])) rfl (by rw [hml]; rfl) (Steps.refl _) (argsL := []) (rest := []) (lenOf pd_29 rfl) rfl (by show 2 * 0 + _ ≤ _; exact Nat.le_of_eq rfl) (hb hby at_239) (fun _ _ => ⟨rfl, rfl, (by decide : 8 + 8 ≤ _), (by decide : 30 + 40 ≤ _)⟩)
        dsimp only [Pt.U, Pt.locs, Pt.cells, Pt.slots] at X181 l181 y181 z181 st181 hQ181 h2181 hg181
        subst l181 y181 z181
        obtain ⟨X181, hS181, hZ181, hown181⟩ := rebS (s := s) (vm0 := s.vm) hS0 (show _ ≤ T136.heap.size from (Nat.le_trans (Nat.le_trans (Nat.le_trans (Nat.le_trans (Nat.le_trans (Nat.le_trans (Nat.le_trans (Nat.le_trans (Nat.zero_le _) E97.1) E98.1) (Keep.of_wr W102).1) (Keep.of_wr W105).1) K109.1) K115.1) K135.1) K136.1)) X181 h2181 hg181 hZ hown
        obtain ⟨rfl, Nq181, K181, P181_0, P181_1, P181_2, P181_3, P181_4⟩ := hQ181
        have N181 := Fr.app Nq136 Nq181
        have O181 := O136.keep K181 (allS g_b137 all0)
        obtain ⟨_, T182, L182, X182, hQ182, st182⟩ := cV X181 hx hZ181 hown181 (W hw 214 rfl) (W hw 215 rfl) (notFace_of_selects (args := #[]) (mvT hZ181 (W hw 217 rfl))) (W hw 217 rfl) (W hw 216 rfl) (W hw 218 rfl) (W hw 101 rfl) (by decide) (rm40 l Z a0 hw [] b137 T181.heap n0 O181 P181_4) rfl P181_2 #[vi p1, vi p2, vi p3, vi p4, vi ca, vi cb, vi co, vi 0, vi 1, vr b97, vr b116, vr b117, vr b137, .unset, .unset, .unset, .unset, .unset] [] (by rw [hml]; rfl) (hb hby at_245) pd_30 rfl (W := 0) (Nat.le_of_eq rfl) (by decide) (by decide) (by decide) (by decide)
        obtain ⟨rfl, Nq182, e182⟩ := hQ182
        have N182 := Fr.app N181 Nq182
        obtain ⟨_, T183, L183, X183, hQ183, st183⟩ := cV X182 hx hZ181 hown181 (W hw 214 rfl) (W hw 215 rfl) (notFace_of_selects (args := #[]) (mvT hZ181 (W hw 217 rfl))) (W hw 217 rfl) (W hw 216 rfl) (W hw 218 rfl) (W hw 101 rfl) (by decide) (rm40 l Z a0 hw [] b137 T181.heap n0 O181 P181_4) e182 P181_2 #[vi p1, vi p2, vi p3, vi p4, vi ca, vi cb, vi co, vi 0, vi 1, vr b97, vr b116, vr b117, vr b137, vi 1, .unset, .unset, .unset, .unset] [] (by rw [hml]; rfl) (hb hby at_252) pd_30 rfl (W := 0) (Nat.le_of_eq rfl) (by decide) (by decide) (by decide) (by decide)
        obtain ⟨rfl, Nq183, e183⟩ := hQ183
        have N183 := Fr.app N182 Nq183
        obtain ⟨b184, T184, h184, k184, X184, e184, E184, hS184, hk184, hZ184, hown184, st184⟩ := ldcS (s := s) (vm0 := T181.vm) X183 hx hZ181 hown181 (W hw 219 rfl) (own_wS hw) e183 hS181 (Nat.le_refl _) (g := (mkF m 259 #[vi p1, vi p2, vi p3, vi p4, vi ca, vi cb, vi co, vi 0, vi 1, vr b97, vr b116, vr b117, vr b137, vi 1, vi 1, .unset, .unset, .unset] [(.ref b137)])) rfl (hb hby at_259) (n := 4) (by decide) (by decide) (by decide) (by decide)
        have O184 := O181.ext E184
        have f185 := (P181_1.ext E184)
        have f186 := ((f173.keep K181).ext E184)
        have f187 := ((f174.keep K181 (ninS ne146 nin0)).ext E184)
        have f188 := (P181_0.ext E184)
        have f189 := ((f175.keep K181 (ninS ne146 nin0)).ext E184)
        have f190 := ((f176.keep K181 (ninS ne149 nin0)).ext E184)
        have f191 := (((f144.keep K136).keep K181).ext E184)
        have f193 := (P181_2.ext E184)
        obtain ⟨_, T192, L192, X192, hQ192, st192⟩ := cV X184 hx hZ184 hown184 (W hw 220 rfl) (W hw 221 rfl) (notFace_of_selects (args := #[]) (mvT hZ184 (W hw 223 rfl))) (W hw 223 rfl) (W hw 222 rfl) (W hw 224 rfl) (W hw 101 rfl) (by decide) (rm41_1 l Z a0 hw [] b137 b184 b117 b119 k121 b97 b116 h184 n0 O184 f185 f186 f187 f188 f189 f190 f191) e184 f193 #[vi p1, vi p2, vi p3, vi p4, vi ca, vi cb, vi co, vi 0, vi 1, vr b97, vr b116, vr b117, vr b137, vi 1, vi 1, .unset, .unset, .unset] [] (by rw [hml]; rfl) (hb hby at_261) pd_31 rfl (W := 0) (Nat.le_of_eq rfl) (by decide) (by decide) (by decide) (by decide)
        obtain ⟨rfl, Nq192, e192⟩ := hQ192
        have N192 := Fr.app N183 Nq192
        obtain ⟨_, T194, L194, X194, hQ194, st194⟩ := cV X192 hx hZ184 hown184 (W hw 238 rfl) (W hw 150 rfl) (notFace_of_selects (args := #[]) (mvT hZ184 (W hw 152 rfl))) (W hw 152 rfl) (W hw 151 rfl) (W hw 153 rfl) (W hw 2 rfl) (by decide) (rm26_3 l Z a0 hw [] b116 h184 n0 O184 ) e192 f191 #[vi p1, vi p2, vi p3, vi p4, vi ca, vi cb, vi co, vi 0, vi 1, vr b97, vr b116, vr b117, vr b137, vi 1, vi 1, vr b116, vr b116, .unset] [] (by rw [hml]; rfl) (hb hby at_316) pd_20 rfl (W := 0) (Nat.le_of_eq rfl) (by decide) (by decide) (by decide) (by decide)
        obtain ⟨rfl, Nq194, e194⟩ := hQ194
        have N194 := Fr.app N192 Nq194
        obtain ⟨fs, hr, hrun, hended, hREW⟩ := X194.leaveW (s := s) hS184 (by rw [e194]; exact hk184) (v := some (.int 1)) (fun h => by rw [Bd.returns] at h; cases h)
        refine ⟨_, _, pre150 _ ?_, hrun, hended, _, _, rfl, ?_, hREW.1, hREW.2.1, hREW.2.2.1, hREW.2.2.2.mono (by decide) (by decide)⟩
        · show Steps p.tables e below (T136.setTop (mkF m 237 #[vi p1, vi p2, vi p3, vi p4, vi ca, vi cb, vi co, vi 0, vi 1, vr b97, vr b116, vr b117, vr b137, .unset, .unset, .unset, .unset, .unset] [])) _
          refine XS.aload X136.here hx rfl (hb hby at_237) rfl rfl ?_
          refine st181.trans ?_
          refine XS.pop X181.here hx rfl (hb hby at_242) rfl rfl ?_
          refine XS.aload X181.here hx rfl (hb hby at_243) rfl rfl ?_
          refine st182 _ ?_
          refine XS.istore X182.here hx rfl (hb hby at_248) rfl (l' := #[vi p1, vi p2, vi p3, vi p4, vi ca, vi cb, vi co, vi 0, vi 1, vr b97, vr b116, vr b117, vr b137, vi 1, .unset, .unset, .unset, .unset]) rfl ?_
          refine XS.aload X182.here hx rfl (hb hby at_250) rfl rfl ?_
          refine st183 _ ?_
          refine XS.istore X183.here hx rfl (hb hby at_255) rfl (l' := #[vi p1, vi p2, vi p3, vi p4, vi ca, vi cb, vi co, vi 0, vi 1, vr b97, vr b116, vr b117, vr b137, vi 1, vi 1, .unset, .unset, .unset]) rfl ?_
          refine XS.aload X183.here hx rfl (hb hby at_257) rfl rfl ?_
          show Steps p.tables e below (T183.setTop (mkF m 259 #[vi p1, vi p2, vi p3, vi p4, vi ca, vi cb, vi co, vi 0, vi 1, vr b97, vr b116, vr b117, vr b137, vi 1, vi 1, .unset, .unset, .unset] [(.ref b137)])) _
          refine st184 _ ?_
          refine st192 _ ?_
          refine XS.astore X192.here hx rfl (hb hby at_264) rfl rfl (l' := #[vi p1, vi p2, vi p3, vi p4, vi ca, vi cb, vi co, vi 0, vi 1, vr b97, vr b116, vr b117, vr b137, vi 1, vi 1, vr b116, .unset, .unset]) rfl ?_
          refine XS.iload X192.here hx rfl (hb hby at_266) rfl ?_
          refine XS.iconst X192.here hx rfl (hb hby at_268) ?_
          refine XS.icmpYes X192.here hx rfl (pc0 := 269) (pc' := 279) rfl (hb hby at_269) rfl (feq ((by decide) : ¬ ((0 : Int32) = (3 : Int32)))).2 (by decide) (by decide) ?_
          refine XS.iload X192.here hx rfl (hb hby at_279) rfl ?_
          refine XS.ifNo X192.here hx rfl (hb hby at_281) rfl ((if0 _ _).trans (feq ((by decide) : ¬ ((1 : Int32) = (0 : Int32)))).1) ?_
          refine XS.aload X192.here hx rfl (hb hby at_284) rfl rfl ?_
          refine XS.astore X192.here hx rfl (hb hby at_286) rfl rfl (l' := #[vi p1, vi p2, vi p3, vi p4, vi ca, vi cb, vi co, vi 0, vi 1, vr b97, vr b116, vr b117, vr b137, vi 1, vi 1, vr b116, vr b116, .unset]) rfl ?_
          show Steps p.tables e below (T192.setTop (mkF m 288 #[vi p1, vi p2, vi p3, vi p4, vi ca, vi cb, vi co, vi 0, vi 1, vr b97, vr b116, vr b117, vr b137, vi 1, vi 1, vr b116, vr b116, .unset] [])) _
          refine XS.goto X192.here hx rfl (pc0 := 288) (pc' := 294) rfl (hb hby at_288) (by decide) (by decide) ?_
          refine XS.aload X192.here hx rfl (hb hby at_294) rfl rfl ?_
          refine XS.ifnonnullYes X192.here hx rfl (pc0 := 296) (pc' := 312) rfl (hb hby at_296) rfl (by decide) (by decide) ?_
          refine XS.aload X192.here hx rfl (hb hby at_312) rfl rfl ?_
          refine XS.aload X192.here hx rfl (hb hby at_314) rfl rfl ?_
          refine st194 _ ?_
          refine XS.istore X194.here hx rfl (hb hby at_319) rfl (l' := #[vi p1, vi p2, vi p3, vi p4, vi ca, vi cb, vi co, vi 0, vi 1, vr b97, vr b116, vr b117, vr b137, vi 1, vi 1, vr b116, vr b116, vi 1]) rfl ?_
          refine XS.iload X194.here hx rfl (hb hby at_321) rfl ?_
          refine XS.ifNo X194.here hx rfl (hb hby at_323) rfl ((if0 _ _).trans (feq ((by decide) : ¬ ((1 : Int32) = (0 : Int32)))).1) ?_
          refine XS.iload X194.here hx rfl (hb hby at_326) rfl ?_
          show Steps p.tables e below (T194.setTop (mkF m 328 #[vi p1, vi p2, vi p3, vi p4, vi ca, vi cb, vi co, vi 0, vi 1, vr b97, vr b116, vr b117, vr b137, vi 1, vi 1, vr b116, vr b116, vi 1] [(.int 1)])) _
          refine XS.ifNo X194.here hx rfl (hb hby at_328) rfl ((if0 _ _).trans (feq ((by decide) : ¬ ((1 : Int32) = (0 : Int32)))).1) ?_
          refine XS.iload X194.here hx rfl (hb hby at_331) rfl ?_
          refine XS.ifNo X194.here hx rfl (hb hby at_333) rfl ((if0 _ _).trans (feq ((by decide) : ¬ ((1 : Int32) = (0 : Int32)))).1) ?_
          refine XS.iconst X194.here hx rfl (hb hby at_336) ?_
          refine XS.goto X194.here hx rfl (pc0 := 337) (pc' := 341) rfl (hb hby at_337) (by decide) (by decide) ?_
          exact retN X194 hx (t := .boolean) Bd.returns (by simp) (hb hby at_341) hr
        · show Qrm0 Z p1 p2 p3 p4 cs5 w6 k7 h0 n0 _ T194.heap _
          exact ⟨rfl, N194⟩
  · have pre195 : ∀ t, Steps p.tables e below (s₁.setTop (mkF m 29 #[vi p1, vi p2, vi p3, vi p4, vi ca, vi cb, vi co, vi 1, .unset, .unset, .unset, .unset, .unset, .unset, .unset, .unset, .unset, .unset] [])) t → Steps p.tables e below (s₁.setTop (entryFrame m #[(.int p1), (.int p2), (.int p3), (.int p4)] maxLocals)) t := fun t kt => pre8 t (by
      show Steps p.tables e below (s₁.setTop (mkF m 29 #[vi p1, vi p2, vi p3, vi p4, vi ca, vi cb, vi co, vi kd, .unset, .unset, .unset, .unset, .unset, .unset, .unset, .unset, .unset, .unset] [])) _
      rw [hk]
      exact kt)
    by_cases h4 : (p4 &&& (4 : Int32)) = (0 : Int32)
    · have pre196 : ∀ t, Steps p.tables e below (s₁.setTop (mkF m 88 #[vi p1, vi p2, vi p3, vi p4, vi ca, vi cb, vi co, vi 1, vi 0, .unset, .unset, .unset, .unset, .unset, .unset, .unset, .unset, .unset] [(.int 61), (.int ca)])) t → Steps p.tables e below (s₁.setTop (entryFrame m #[(.int p1), (.int p2), (.int p3), (.int p4)] maxLocals)) t := fun t kt => pre195 t (by
        show Steps p.tables e below (s₁.setTop (mkF m 29 #[vi p1, vi p2, vi p3, vi p4, vi ca, vi cb, vi co, vi 1, .unset, .unset, .unset, .unset, .unset, .unset, .unset, .unset, .unset, .unset] [])) _
        refine XS.iloadN X0.here hx rfl (hb hby at_29) rfl ?_
        refine XS.iconst X0.here hx rfl (hb hby at_30) ?_
        refine XS.iand X0.here hx rfl (hb hby at_31) rfl ?_
        refine XS.ifYes X0.here hx rfl (pc0 := 32) (pc' := 45) rfl (hb hby at_32) rfl ((if0 _ _).trans (teq (h4 : (p4 &&& (4 : Int32)) = (0 : Int32))).1) (by decide) (by decide) ?_
        refine XS.iconst X0.here hx rfl (hb hby at_45) ?_
        refine XS.istore X0.here hx rfl (hb hby at_46) rfl (l' := #[vi p1, vi p2, vi p3, vi p4, vi ca, vi cb, vi co, vi 1, vi 0, .unset, .unset, .unset, .unset, .unset, .unset, .unset, .unset, .unset]) rfl ?_
        refine XS.iload X0.here hx rfl (hb hby at_48) rfl ?_
        refine XS.ifYes X0.here hx rfl (pc0 := 50) (pc' := 78) rfl (hb hby at_50) rfl ((if0 _ _).trans (feq ((by decide) : ¬ ((1 : Int32) = (0 : Int32)))).2) (by decide) (by decide) ?_
        refine XS.iload X0.here hx rfl (hb hby at_78) rfl ?_
        refine XS.iconst X0.here hx rfl (hb hby at_80) ?_
        show Steps p.tables e below (s₁.setTop (mkF m 81 #[vi p1, vi p2, vi p3, vi p4, vi ca, vi cb, vi co, vi 1, vi 0, .unset, .unset, .unset, .unset, .unset, .unset, .unset, .unset, .unset] [(.int 1), (.int 1)])) _
        refine XS.icmpNo X0.here hx rfl (hb hby at_81) rfl (teq ((by decide) : (1 : Int32) = (1 : Int32))).2 ?_
        refine XS.iload X0.here hx rfl (hb hby at_84) rfl ?_
        refine XS.bipush X0.here hx rfl (hb hby at_86) ?_
        exact kt)
      have pre197 : ∀ t, Steps p.tables e below (s₁.setTop (mkF m 98 #[vi p1, vi p2, vi p3, vi p4, vi ca, vi cb, vi co, vi 1, vi 0, .unset, .unset, .unset, .unset, .unset, .unset, .unset, .unset, .unset] [(.int (own_se ca (61 : Int32) (120 : Int32) ca))])) t → Steps p.tables e below (s₁.setTop (entryFrame m #[(.int p1), (.int p2), (.int p3), (.int p4)] maxLocals)) t := fun t kt => pre196 t (by
        by_cases hd_ : ca = (61 : Int32)
        · show Steps p.tables e below (s₁.setTop (mkF m 88 #[vi p1, vi p2, vi p3, vi p4, vi ca, vi cb, vi co, vi 1, vi 0, .unset, .unset, .unset, .unset, .unset, .unset, .unset, .unset, .unset] [(.int 61), (.int ca)])) _
          refine XS.icmpNo X0.here hx rfl (hb hby at_88) rfl (teq (hd_ : ca = (61 : Int32))).2 ?_
          refine XS.bipush X0.here hx rfl (hb hby at_91) ?_
          refine XS.goto X0.here hx rfl (pc0 := 93) (pc' := 98) rfl (hb hby at_93) (by decide) (by decide) ?_
          rw [show (own_se ca (61 : Int32) (120 : Int32) ca) = (120 : Int32) from if_pos hd_] at kt
          exact kt
        · show Steps p.tables e below (s₁.setTop (mkF m 88 #[vi p1, vi p2, vi p3, vi p4, vi ca, vi cb, vi co, vi 1, vi 0, .unset, .unset, .unset, .unset, .unset, .unset, .unset, .unset, .unset] [(.int 61), (.int ca)])) _
          refine XS.icmpYes X0.here hx rfl (pc0 := 88) (pc' := 96) rfl (hb hby at_88) rfl (feq (hd_ : ¬ (ca = (61 : Int32)))).2 (by decide) (by decide) ?_
          refine XS.iload X0.here hx rfl (hb hby at_96) rfl ?_
          rw [show (own_se ca (61 : Int32) (120 : Int32) ca) = ca from if_neg hd_] at kt
          exact kt)
      obtain ⟨la, h_la⟩ : ∃ z : Int32, z = (own_se ca (61 : Int32) (120 : Int32) ca) := ⟨_, rfl⟩
      obtain ⟨h0_la, h1_la, h2_la⟩ := own_la ca la (120) h0_ca h1_ca (by decide) (by decide) (by decide) h_la
      have pre198 : ∀ t, Steps p.tables e below (s₁.setTop (mkF m 104 #[vi p1, vi p2, vi p3, vi p4, vi ca, vi cb, vi co, vi 1, vi 0, .unset, vi la, .unset, .unset, .unset, .unset, .unset, .unset, .unset] [(.int 61), (.int cb)])) t → Steps p.tables e below (s₁.setTop (entryFrame m #[(.int p1), (.int p2), (.int p3), (.int p4)] maxLocals)) t := fun t kt => pre197 t (by
        show Steps p.tables e below (s₁.setTop (mkF m 98 #[vi p1, vi p2, vi p3, vi p4, vi ca, vi cb, vi co, vi 1, vi 0, .unset, .unset, .unset, .unset, .unset, .unset, .unset, .unset, .unset] [(.int (own_se ca (61 : Int32) (120 : Int32) ca))])) _
        rw [← h_la]
        refine XS.istore X0.here hx rfl (hb hby at_98) rfl (l' := #[vi p1, vi p2, vi p3, vi p4, vi ca, vi cb, vi co, vi 1, vi 0, .unset, vi la, .unset, .unset, .unset, .unset, .unset, .unset, .unset]) rfl ?_
        refine XS.iload X0.here hx rfl (hb hby at_100) rfl ?_
        refine XS.bipush X0.here hx rfl (hb hby at_102) ?_
        exact kt)
      have pre199 : ∀ t, Steps p.tables e below (s₁.setTop (mkF m 114 #[vi p1, vi p2, vi p3, vi p4, vi ca, vi cb, vi co, vi 1, vi 0, .unset, vi la, .unset, .unset, .unset, .unset, .unset, .unset, .unset] [(.int (own_se cb (61 : Int32) (121 : Int32) cb))])) t → Steps p.tables e below (s₁.setTop (entryFrame m #[(.int p1), (.int p2), (.int p3), (.int p4)] maxLocals)) t := fun t kt => pre198 t (by
        by_cases hd_ : cb = (61 : Int32)
        · show Steps p.tables e below (s₁.setTop (mkF m 104 #[vi p1, vi p2, vi p3, vi p4, vi ca, vi cb, vi co, vi 1, vi 0, .unset, vi la, .unset, .unset, .unset, .unset, .unset, .unset, .unset] [(.int 61), (.int cb)])) _
          refine XS.icmpNo X0.here hx rfl (hb hby at_104) rfl (teq (hd_ : cb = (61 : Int32))).2 ?_
          refine XS.bipush X0.here hx rfl (hb hby at_107) ?_
          refine XS.goto X0.here hx rfl (pc0 := 109) (pc' := 114) rfl (hb hby at_109) (by decide) (by decide) ?_
          rw [show (own_se cb (61 : Int32) (121 : Int32) cb) = (121 : Int32) from if_pos hd_] at kt
          exact kt
        · show Steps p.tables e below (s₁.setTop (mkF m 104 #[vi p1, vi p2, vi p3, vi p4, vi ca, vi cb, vi co, vi 1, vi 0, .unset, vi la, .unset, .unset, .unset, .unset, .unset, .unset, .unset] [(.int 61), (.int cb)])) _
          refine XS.icmpYes X0.here hx rfl (pc0 := 104) (pc' := 112) rfl (hb hby at_104) rfl (feq (hd_ : ¬ (cb = (61 : Int32)))).2 (by decide) (by decide) ?_
          refine XS.iload X0.here hx rfl (hb hby at_112) rfl ?_
          rw [show (own_se cb (61 : Int32) (121 : Int32) cb) = cb from if_neg hd_] at kt
          exact kt)
      obtain ⟨lb, h_lb⟩ : ∃ z : Int32, z = (own_se cb (61 : Int32) (121 : Int32) cb) := ⟨_, rfl⟩
      obtain ⟨h0_lb, h1_lb, h2_lb⟩ := own_la cb lb (121) h0_cb h1_cb (by decide) (by decide) (by decide) h_lb
      obtain ⟨T200, h200, X200, e200, E200, A200, D200, U200, st200⟩ := newO X0 hx hZ hown (W hw 0 rfl) (W hw 1 rfl) (W hw 2 rfl) e0 (g := (mkF m 116 #[vi p1, vi p2, vi p3, vi p4, vi ca, vi cb, vi co, vi 1, vi 0, .unset, vi la, vi lb, .unset, .unset, .unset, .unset, .unset, .unset] [])) rfl (hb hby at_116) (by decide) (by decide)
      obtain ⟨b200, g200⟩ : ∃ z, z = h0.size := ⟨_, rfl⟩
      rw [← g200] at A200 D200 U200 st200
      have g_b200 := own_born O0 (own_eqle g200)
      have sz_b200 := Nat.le_trans (Keep.refl h0 []).1 (own_eqle g200)
      have K200 := (Keep.refl h0 []).ext E200
      have O200 := O0.ext E200
      have F200_coder : Fld Z h200 b200 "java/lang/String" "coder" "B" (.int 0) := D200 (Or.inr (W hw 27 rfl)) (ty := .byte) (by decide)
      have F200_value : Fld Z h200 b200 "java/lang/String" "value" "[B" .null := D200 (Or.inr (W hw 29 rfl)) (ty := (.array .byte)) (by decide)
      obtain ⟨T201, h201, k201, X201, e201, E201, A201, B201, st201⟩ := newPE X200 hx hZ (W hw 3 rfl) e200 (g := (mkF m 121 #[vi p1, vi p2, vi p3, vi p4, vi ca, vi cb, vi co, vi 1, vi 0, .unset, vi la, vi lb, .unset, .unset, .unset, .unset, .unset, .unset] [(.int 4), (.ref b200), (.ref b200)])) rfl (hb hby at_121) rfl (by decide) (cap := 4) (by decide) (by decide) (by decide) (by decide) (ad := "[C") (by decide)
      obtain ⟨b201, g201⟩ : ∃ z, z = h200.size := ⟨_, rfl⟩
      rw [← g201] at A201 B201 st201
      have ne202 := (own_ltn A200.lt (own_eqle g201))
      have g_b201 := own_born O200 (own_eqle g201)
      have sz_b201 := Nat.le_trans K200.1 (own_eqle g201)
      have K201 := K200.ext E201
      have O201 := O200.ext E201
      have V201 : Arv Z h201 b201 k201 .char (4 : Int32) [] (.int 0) := Arv.new A201 (by decide)
      have V203 : Arv Z h201 b201 k201 .char (4 : Int32) [(.int 0)] (.int 0) := V201.pad (pad_rep [] (.int 0) 1)
      obtain ⟨cl204, Ar204, q204, S204, M204, Hs204, G204⟩ := id V203
      have hin204 : ¬ ((0 : Int32) < 0 ∨ cl204.slots.size ≤ ((0 : Int32)).toNatClampNeg) := inb_of S204 ⟨by decide, by decide⟩
      obtain ⟨T205, h205, X205, e205, W205, st205⟩ := stC X201 hx hZ e201 Ar204 (j := (0 : Int32)) hin204 (g := (mkF m 127 #[vi p1, vi p2, vi p3, vi p4, vi ca, vi cb, vi co, vi 1, vi 0, .unset, vi la, vi lb, .unset, .unset, .unset, .unset, .unset, .unset] [(.int 45), (.int 0), (.ref b201), (.ref b201), (.ref b200), (.ref b200)])) rfl rfl (hb hby at_127)
      have K205 := K201.wr W205 (Or.inr sz_b201)
      have O205 := O201.wr W205 g_b201
      have N205 := Fr.snoc X205 N0 g_b201
      have Vw205 : Arv Z h205 b201 k201 .char (4 : Int32) [(.int (nar .char (45 : Int32)))] (.int 0) := Arv.set Ar204 q204 S204 M204 Hs204 G204 (fits_nar_char _) W205 0 rfl (Nat.le_of_ble_eq_true rfl)
      have V206 : Arv Z h205 b201 k201 .char (4 : Int32) [(.int (nar .char (45 : Int32))), (.int 0)] (.int 0) := Vw205.pad (pad_rep [(.int (nar .char (45 : Int32)))] (.int 0) 1)
      obtain ⟨cl207, Ar207, q207, S207, M207, Hs207, G207⟩ := id V206
      have hin207 : ¬ ((1 : Int32) < 0 ∨ cl207.slots.size ≤ ((1 : Int32)).toNatClampNeg) := inb_of S207 ⟨by decide, by decide⟩
      obtain ⟨T208, h208, X208, e208, W208, st208⟩ := stC X205 hx hZ e205 Ar207 (j := (1 : Int32)) hin207 (g := (mkF m 132 #[vi p1, vi p2, vi p3, vi p4, vi ca, vi cb, vi co, vi 1, vi 0, .unset, vi la, vi lb, .unset, .unset, .unset, .unset, .unset, .unset] [(.int 45), (.int 1), (.ref b201), (.ref b201), (.ref b200), (.ref b200)])) rfl rfl (hb hby at_132)
      have K208 := K205.wr W208 (Or.inr sz_b201)
      have O208 := O205.wr W208 g_b201
      have N208 := Fr.snoc X208 N205 g_b201
      have Vw208 : Arv Z h208 b201 k201 .char (4 : Int32) [(.int (nar .char (45 : Int32))), (.int (nar .char (45 : Int32)))] (.int 0) := Arv.set Ar207 q207 S207 M207 Hs207 G207 (fits_nar_char _) W208 1 rfl (Nat.le_of_ble_eq_true rfl)
      have V209 : Arv Z h208 b201 k201 .char (4 : Int32) [(.int (nar .char (45 : Int32))), (.int (nar .char (45 : Int32))), (.int 0)] (.int 0) := Vw208.pad (pad_rep [(.int (nar .char (45 : Int32))), (.int (nar .char (45 : Int32)))] (.int 0) 1)
      obtain ⟨cl210, Ar210, q210, S210, M210, Hs210, G210⟩ := id V209
      have hin210 : ¬ ((2 : Int32) < 0 ∨ cl210.slots.size ≤ ((2 : Int32)).toNatClampNeg) := inb_of S210 ⟨by decide, by decide⟩
      obtain ⟨T211, h211, X211, e211, W211, st211⟩ := stC X208 hx hZ e208 Ar210 (j := (2 : Int32)) hin210 (g := (mkF m 137 #[vi p1, vi p2, vi p3, vi p4, vi ca, vi cb, vi co, vi 1, vi 0, .unset, vi la, vi lb, .unset, .unset, .unset, .unset, .unset, .unset] [(.int la), (.int 2), (.ref b201), (.ref b201), (.ref b200), (.ref b200)])) rfl rfl (hb hby at_137)
      have K211 := K208.wr W211 (Or.inr sz_b201)
      have O211 := O208.wr W211 g_b201
      have N211 := Fr.snoc X211 N208 g_b201
      have Vw211 : Arv Z h211 b201 k201 .char (4 : Int32) [(.int (nar .char (45 : Int32))), (.int (nar .char (45 : Int32))), (.int (nar .char la))] (.int 0) := Arv.set Ar210 q210 S210 M210 Hs210 G210 (fits_nar_char _) W211 2 rfl (Nat.le_of_ble_eq_true rfl)
      have V212 : Arv Z h211 b201 k201 .char (4 : Int32) [(.int (nar .char (45 : Int32))), (.int (nar .char (45 : Int32))), (.int (nar .char la)), (.int 0)] (.int 0) := Vw211.pad (pad_rep [(.int (nar .char (45 : Int32))), (.int (nar .char (45 : Int32))), (.int (nar .char la))] (.int 0) 1)
      obtain ⟨cl213, Ar213, q213, S213, M213, Hs213, G213⟩ := id V212
      have hin213 : ¬ ((3 : Int32) < 0 ∨ cl213.slots.size ≤ ((3 : Int32)).toNatClampNeg) := inb_of S213 ⟨by decide, by decide⟩
      obtain ⟨T214, h214, X214, e214, W214, st214⟩ := stC X211 hx hZ e211 Ar213 (j := (3 : Int32)) hin213 (g := (mkF m 142 #[vi p1, vi p2, vi p3, vi p4, vi ca, vi cb, vi co, vi 1, vi 0, .unset, vi la, vi lb, .unset, .unset, .unset, .unset, .unset, .unset] [(.int lb), (.int 3), (.ref b201), (.ref b201), (.ref b200), (.ref b200)])) rfl rfl (hb hby at_142)
      have K214 := K211.wr W214 (Or.inr sz_b201)
      have O214 := O211.wr W214 g_b201
      have N214 := Fr.snoc X214 N211 g_b201
      have Vw214 : Arv Z h214 b201 k201 .char (4 : Int32) [(.int (nar .char (45 : Int32))), (.int (nar .char (45 : Int32))), (.int (nar .char la)), (.int (nar .char lb))] (.int 0) := Arv.set Ar213 q213 S213 M213 Hs213 G213 (fits_nar_char _) W214 3 rfl (Nat.le_of_ble_eq_true rfl)
      have f215 := (((((A200.ext E201).wr W205).wr W208).wr W211).wr W214)
      have f216 := (((((F200_coder.ext E201).other W205 (Or.inl ne202)).other W208 (Or.inl ne202)).other W211 (Or.inl ne202)).other W214 (Or.inl ne202))
      have f217 := (((((F200_value.ext E201).other W205 (Or.inl ne202)).other W208 (Or.inl ne202)).other W211 (Or.inl ne202)).other W214 (Or.inl ne202))
      obtain ⟨_, T218, L218, X218, hQ218, st218⟩ := cI X214 hx hZ hown (W hw 4 rfl) (W hw 5 rfl) (W hw 6 rfl) (W hw 2 rfl) rfl (by decide) (rm1_1 l Z a0 hw [] b200 b201 k201 (nar .char (45 : Int32)) (nar .char (45 : Int32)) (nar .char la) (nar .char lb) cs5 h214 n0 O214 Vw214 S_cs hcs (by decide) (by decide) (own_c1 la h0_la h1_la) (own_c1 lb h0_lb h1_lb) f215 f216 g_b200 f217) e214 #[vi p1, vi p2, vi p3, vi p4, vi ca, vi cb, vi co, vi 1, vi 0, .unset, vi la, vi lb, .unset, .unset, .unset, .unset, .unset, .unset] [(.ref b200)] (by rw [hml]; rfl) (hb hby at_143) pd_6 rfl (W := 1) (Nat.le_of_eq rfl) (by decide) (by decide) (by decide) (by decide)
      obtain ⟨b219, k220, rfl, Nq218, K218, sq218_b219, P218_0, P218_1, P218_2, P218_3, P218_4⟩ := hQ218
      have N218 := Fr.app N214 Nq218
      have KK218 := Keep.trans (h := h214) K214 K218 (allS (Or.inr sz_b200) all0)
      have O218 := O214.keep K218 (allS g_b200 all0)
      obtain ⟨T224, Lc224, X224, Nq224, hQ224⟩ := sg0_189_213_1 hw p1 p2 p3 p4 ca cb co (1 : Int32) (0 : Int32) b200 la lb cs5 w6 k7 T218.heap n0 O218 S_cs hcs h1_co S_D V_D P218_0 X218 hx hZ hby hml hown rfl N218 (by decide) (by decide) (by decide) (by decide)
      obtain ⟨b225, b226, b227, b228, k229, k230, K224, sq224_b225, sq224_b226, sq224_b227, sq224_b228, P224_0, P224_1, P224_2, P224_3, P224_4, P224_5, P224_6, P224_7, P224_8, P224_9, P224_10, P224_11, P224_12, P224_13, P224_14, P224_15, P224_16, P224_17, st224⟩ := hQ224
      have KK224 := Keep.trans (h := T218.heap) KK218 K224 all0
      have O224 := O218.keep K224 all0
      obtain ⟨T244, Lc244, X244, Nq244, hQ244⟩ := sg0_226_237 hw p1 p2 p3 p4 ca cb co (1 : Int32) (0 : Int32) b200 b225 b226 T224.heap n0 O224  X224 hx hZ hby hml hown rfl Nq224 (by decide) (by decide) (by decide) (by decide)
      obtain ⟨b245, K244, sq244_b245, P244_0, P244_1, P244_2, P244_3, P244_4, st244⟩ := hQ244
      have f246 := (P218_0.keep K224)
      have ne247 := (own_ltn f246.lt sq244_b245)
      have f250 := (P218_3.keep K224)
      have ne251 := (own_ltn f250.lt sq244_b245)
      have ne253 := (own_ltn P224_9.lt sq244_b245)
      have g_b245 := own_born O224 sq244_b245
      have KK244 := Keep.trans (h := T224.heap) KK224 K244 all0
      have O244 := O224.keep K244 all0
      have f256 := (P224_9.keep K244)
      have f257 := (P224_11.keep K244 nin0)
      have f258 := (P224_10.keep K244 nin0)
      have f259 := (P224_17.keep K244 nin0)
      have f260 := (f246.keep K244)
      have f261 := ((P218_1.keep K224 nin0).keep K244 nin0)
      have f262 := ((P218_2.keep K224 nin0).keep K244 nin0)
      have f263 := ((P218_4.keep K224 nin0).keep K244 nin0)
      obtain ⟨cq264, kq264, q264a, q264b, q264c⟩ := isOf hZ rfl P244_0
      obtain ⟨_, _, ⟨T264, L264, k264, n264⟩, -, X264, h2264, hg264, ⟨Lc264, hQ264, l264, y264, z264⟩, st264⟩ := X244.virtualBackS hx (y := (⟨"com/example/runqueue/runqueue/Arguments", "nextOption", "()Ljava/lang/String;"⟩ : MethodName)) (z := (⟨"com/example/runqueue/runqueue/Arguments", "nextOption", "()Ljava/lang/String;"⟩ : MethodName)) hown (mvT hZ (W hw 108 rfl)) (mvT hZ (W hw 109 rfl)) (notFace_of_selects (args := #[]) (mvT hZ (W hw 111 rfl))) (mvT hZ (W hw 111 rfl)) (mvT hZ (W hw 110 rfl)) (by decide) (own_backOfSH (s := s) (vm0 := s.vm) (W := 0) (rm20_4 l Z a0 hw [] b245 b226 b228 k230 b200 cs5 b219 k220 (nar .byte ((nar .char (45 : Int32)).toInt8.toInt32)) (nar .byte ((nar .char (45 : Int32)).toInt8.toInt32)) (nar .byte ((nar .char la).toInt8.toInt32)) (nar .byte ((nar .char lb).toInt8.toInt32)) T244.heap n0 O244 P244_2 P244_1 f256 f257 f258 f259 f260 g_b200 S_cs hcs f261 f262 f263 (by decide) P244_0 g_b245 P244_3 P244_4 (by decide) ne247 ne251 (by decide) (by decide) (fun q => h2_la ((own_b61 la h0_la h1_la).mp q)) (fun q => h2_lb ((own_b61 lb h0_lb h1_lb).mp q))) hZ (W hw 112 rfl) (W hw 101 rfl) (by decide) (by decide) (own_EW hw) (own_CH.keep KK244 hCH)) q264a q264c (g := (mkF m 239 #[vi p1, vi p2, vi p3, vi p4, vi ca, vi cb, vi co, vi 1, vi 0, vr b200, vr b225, vr b226, vr b245, .unset, .unset, .unset, .unset, .unset] [(.ref b245)])) rfl (by rw [hml]; rfl) (Steps.refl _) (argsL := []) (rest := []) (lenOf pd_29 rfl) rfl (by show 2 * 0 + _ ≤ _; exact Nat.le_of_eq rfl) (hb hby at_239) (fun _ _ => ⟨rfl, rfl, (by decide : 8 + 8 ≤ _), (by decide : 34 + 40 ≤ _)⟩)
      dsimp only [Pt.U, Pt.locs, Pt.cells, Pt.slots] at X264 l264 y264 z264 st264 hQ264 h2264 hg264
      subst l264 y264 z264
      obtain ⟨X264, hS264, hZ264, hown264⟩ := rebS (s := s) (vm0 := s.vm) hS0 (show _ ≤ T244.heap.size from (Nat.le_trans (Nat.le_trans (Nat.le_trans (Nat.le_trans (Nat.le_trans (Nat.le_trans (Nat.le_trans (Nat.le_trans (Nat.le_trans (Nat.zero_le _) E200.1) E201.1) (Keep.of_wr W205).1) (Keep.of_wr W208).1) (Keep.of_wr W211).1) (Keep.of_wr W214).1) K218.1) K224.1) K244.1)) X264 h2264 hg264 hZ hown
      obtain ⟨rfl, Nq264, K264, P264_0, P264_1, P264_2, P264_3, P264_4⟩ := hQ264
      have N264 := Fr.app Nq244 Nq264
      have O264 := O244.keep K264 (allS g_b245 all0)
      obtain ⟨_, T265, L265, X265, hQ265, st265⟩ := cV X264 hx hZ264 hown264 (W hw 214 rfl) (W hw 215 rfl) (notFace_of_selects (args := #[]) (mvT hZ264 (W hw 217 rfl))) (W hw 217 rfl) (W hw 216 rfl) (W hw 218 rfl) (W hw 101 rfl) (by decide) (rm40 l Z a0 hw [] b245 T264.heap n0 O264 P264_4) rfl P264_2 #[vi p1, vi p2, vi p3, vi p4, vi ca, vi cb, vi co, vi 1, vi 0, vr b200, vr b225, vr b226, vr b245, .unset, .unset, .unset, .unset, .unset] [] (by rw [hml]; rfl) (hb hby at_245) pd_30 rfl (W := 0) (Nat.le_of_eq rfl) (by decide) (by decide) (by decide) (by decide)
      obtain ⟨rfl, Nq265, e265⟩ := hQ265
      have N265 := Fr.app N264 Nq265
      obtain ⟨_, T266, L266, X266, hQ266, st266⟩ := cV X265 hx hZ264 hown264 (W hw 214 rfl) (W hw 215 rfl) (notFace_of_selects (args := #[]) (mvT hZ264 (W hw 217 rfl))) (W hw 217 rfl) (W hw 216 rfl) (W hw 218 rfl) (W hw 101 rfl) (by decide) (rm40 l Z a0 hw [] b245 T264.heap n0 O264 P264_4) e265 P264_2 #[vi p1, vi p2, vi p3, vi p4, vi ca, vi cb, vi co, vi 1, vi 0, vr b200, vr b225, vr b226, vr b245, vi 1, .unset, .unset, .unset, .unset] [] (by rw [hml]; rfl) (hb hby at_252) pd_30 rfl (W := 0) (Nat.le_of_eq rfl) (by decide) (by decide) (by decide) (by decide)
      obtain ⟨rfl, Nq266, e266⟩ := hQ266
      have N266 := Fr.app N265 Nq266
      obtain ⟨b267, T267, h267, k267, X267, e267, E267, hS267, hk267, hZ267, hown267, st267⟩ := ldcS (s := s) (vm0 := T264.vm) X266 hx hZ264 hown264 (W hw 219 rfl) (own_wS hw) e266 hS264 (Nat.le_refl _) (g := (mkF m 259 #[vi p1, vi p2, vi p3, vi p4, vi ca, vi cb, vi co, vi 1, vi 0, vr b200, vr b225, vr b226, vr b245, vi 1, vi 1, .unset, .unset, .unset] [(.ref b245)])) rfl (hb hby at_259) (n := 4) (by decide) (by decide) (by decide) (by decide)
      have O267 := O264.ext E267
      have f268 := (P264_1.ext E267)
      have f269 := ((f256.keep K264).ext E267)
      have f270 := ((f257.keep K264 (ninS ne253 nin0)).ext E267)
      have f271 := (P264_0.ext E267)
      have f273 := (P264_2.ext E267)
      obtain ⟨_, T272, L272, X272, hQ272, st272⟩ := cV X267 hx hZ267 hown267 (W hw 220 rfl) (W hw 221 rfl) (notFace_of_selects (args := #[]) (mvT hZ267 (W hw 223 rfl))) (W hw 223 rfl) (W hw 222 rfl) (W hw 224 rfl) (W hw 101 rfl) (by decide) (rm41 l Z a0 hw [] b245 b267 b226 h267 n0 O267 f268 f269 f270 f271) e267 f273 #[vi p1, vi p2, vi p3, vi p4, vi ca, vi cb, vi co, vi 1, vi 0, vr b200, vr b225, vr b226, vr b245, vi 1, vi 1, .unset, .unset, .unset] [] (by rw [hml]; rfl) (hb hby at_261) pd_31 rfl (W := 0) (Nat.le_of_eq rfl) (by decide) (by decide) (by decide) (by decide)
      obtain ⟨rfl, Nq272, e272⟩ := hQ272
      have N272 := Fr.app N266 Nq272
      obtain ⟨fs, hr, hrun, hended, hREW⟩ := X272.leaveW (s := s) hS267 (by rw [e272]; exact hk267) (v := some (.int 1)) (fun h => by rw [Bd.returns] at h; cases h)
      refine ⟨_, _, pre199 _ ?_, hrun, hended, _, _, rfl, ?_, hREW.1, hREW.2.1, hREW.2.2.1, hREW.2.2.2.mono (by decide) (by decide)⟩
      · show Steps p.tables e below (s₁.setTop (mkF m 114 #[vi p1, vi p2, vi p3, vi p4, vi ca, vi cb, vi co, vi 1, vi 0, .unset, vi la, .unset, .unset, .unset, .unset, .unset, .unset, .unset] [(.int (own_se cb (61 : Int32) (121 : Int32) cb))])) _
        rw [← h_lb]
        refine XS.istore X0.here hx rfl (hb hby at_114) rfl (l' := #[vi p1, vi p2, vi p3, vi p4, vi ca, vi cb, vi co, vi 1, vi 0, .unset, vi la, vi lb, .unset, .unset, .unset, .unset, .unset, .unset]) rfl ?_
        refine st200 _ ?_
        refine XS.dup X200.here hx rfl (hb hby at_119) rfl rfl ?_
        refine XS.iconst X200.here hx rfl (hb hby at_120) ?_
        refine st201 _ ?_
        refine XS.dup X201.here hx rfl (hb hby at_123) rfl rfl ?_
        refine XS.iconst X201.here hx rfl (hb hby at_124) ?_
        refine XS.bipush X201.here hx rfl (hb hby at_125) ?_
        refine st205 _ ?_
        show Steps p.tables e below (T205.setTop (mkF m 128 #[vi p1, vi p2, vi p3, vi p4, vi ca, vi cb, vi co, vi 1, vi 0, .unset, vi la, vi lb, .unset, .unset, .unset, .unset, .unset, .unset] [(.ref b201), (.ref b200), (.ref b200)])) _
        refine XS.dup X205.here hx rfl (hb hby at_128) rfl rfl ?_
        refine XS.iconst X205.here hx rfl (hb hby at_129) ?_
        refine XS.bipush X205.here hx rfl (hb hby at_130) ?_
        refine st208 _ ?_
        refine XS.dup X208.here hx rfl (hb hby at_133) rfl rfl ?_
        refine XS.iconst X208.here hx rfl (hb hby at_134) ?_
        refine XS.iload X208.here hx rfl (hb hby at_135) rfl ?_
        refine st211 _ ?_
        refine XS.dup X211.here hx rfl (hb hby at_138) rfl rfl ?_
        refine XS.iconst X211.here hx rfl (hb hby at_139) ?_
        show Steps p.tables e below (T211.setTop (mkF m 140 #[vi p1, vi p2, vi p3, vi p4, vi ca, vi cb, vi co, vi 1, vi 0, .unset, vi la, vi lb, .unset, .unset, .unset, .unset, .unset, .unset] [(.int 3), (.ref b201), (.ref b201), (.ref b200), (.ref b200)])) _
        refine XS.iload X211.here hx rfl (hb hby at_140) rfl ?_
        refine st214 _ ?_
        refine st218 _ ?_
        refine XS.astore X218.here hx rfl (hb hby at_146) rfl rfl (l' := #[vi p1, vi p2, vi p3, vi p4, vi ca, vi cb, vi co, vi 1, vi 0, vr b200, vi la, vi lb, .unset, .unset, .unset, .unset, .unset, .unset]) rfl ?_
        refine XS.goto X218.here hx rfl (pc0 := 148) (pc' := 189) rfl (hb hby at_148) (by decide) (by decide) ?_
        refine st224 _ ?_
        refine XS.iload X224.here hx rfl (hb hby at_213) rfl ?_
        refine XS.ifYes X224.here hx rfl (pc0 := 215) (pc' := 226) rfl (hb hby at_215) rfl ((if0 _ _).trans (teq ((by decide) : (0 : Int32) = (0 : Int32))).1) (by decide) (by decide) ?_
        refine st244 _ ?_
        refine XS.aload X244.here hx rfl (hb hby at_237) rfl rfl ?_
        show Steps p.tables e below (T244.setTop (mkF m 239 #[vi p1, vi p2, vi p3, vi p4, vi ca, vi cb, vi co, vi 1, vi 0, vr b200, vr b225, vr b226, vr b245, .unset, .unset, .unset, .unset, .unset] [(.ref b245)])) _
        refine st264.trans ?_
        refine XS.pop X264.here hx rfl (hb hby at_242) rfl rfl ?_
        refine XS.aload X264.here hx rfl (hb hby at_243) rfl rfl ?_
        refine st265 _ ?_
        refine XS.istore X265.here hx rfl (hb hby at_248) rfl (l' := #[vi p1, vi p2, vi p3, vi p4, vi ca, vi cb, vi co, vi 1, vi 0, vr b200, vr b225, vr b226, vr b245, vi 1, .unset, .unset, .unset, .unset]) rfl ?_
        refine XS.aload X265.here hx rfl (hb hby at_250) rfl rfl ?_
        refine st266 _ ?_
        refine XS.istore X266.here hx rfl (hb hby at_255) rfl (l' := #[vi p1, vi p2, vi p3, vi p4, vi ca, vi cb, vi co, vi 1, vi 0, vr b200, vr b225, vr b226, vr b245, vi 1, vi 1, .unset, .unset, .unset]) rfl ?_
        refine XS.aload X266.here hx rfl (hb hby at_257) rfl rfl ?_
        refine st267 _ ?_
        show Steps p.tables e below (T267.setTop (mkF m 261 #[vi p1, vi p2, vi p3, vi p4, vi ca, vi cb, vi co, vi 1, vi 0, vr b200, vr b225, vr b226, vr b245, vi 1, vi 1, .unset, .unset, .unset] [(.ref b267), (.ref b245)])) _
        refine st272 _ ?_
        refine XS.astore X272.here hx rfl (hb hby at_264) rfl rfl (l' := #[vi p1, vi p2, vi p3, vi p4, vi ca, vi cb, vi co, vi 1, vi 0, vr b200, vr b225, vr b226, vr b245, vi 1, vi 1, .val .null, .unset, .unset]) rfl ?_
        refine XS.iload X272.here hx rfl (hb hby at_266) rfl ?_
        refine XS.iconst X272.here hx rfl (hb hby at_268) ?_
        refine XS.icmpYes X272.here hx rfl (pc0 := 269) (pc' := 279) rfl (hb hby at_269) rfl (feq ((by decide) : ¬ ((1 : Int32) = (3 : Int32)))).2 (by decide) (by decide) ?_
        refine XS.iload X272.here hx rfl (hb hby at_279) rfl ?_
        refine XS.ifYes X272.here hx rfl (pc0 := 281) (pc' := 291) rfl (hb hby at_281) rfl ((if0 _ _).trans (teq ((by decide) : (0 : Int32) = (0 : Int32))).1) (by decide) (by decide) ?_
        refine XS.aconstNull X272.here hx rfl (hb hby at_291) ?_
        refine XS.astore X272.here hx rfl (hb hby at_292) rfl rfl (l' := #[vi p1, vi p2, vi p3, vi p4, vi ca, vi cb, vi co, vi 1, vi 0, vr b200, vr b225, vr b226, vr b245, vi 1, vi 1, .val .null, .val .null, .unset]) rfl ?_
        refine XS.aload X272.here hx rfl (hb hby at_294) rfl rfl ?_
        show Steps p.tables e below (T272.setTop (mkF m 296 #[vi p1, vi p2, vi p3, vi p4, vi ca, vi cb, vi co, vi 1, vi 0, vr b200, vr b225, vr b226, vr b245, vi 1, vi 1, .val .null, .val .null, .unset] [.null])) _
        refine XS.ifnonnullNo X272.here hx rfl (hb hby at_296) rfl ?_
        refine XS.aload X272.here hx rfl (hb hby at_299) rfl rfl ?_
        refine XS.ifnonnullNo X272.here hx rfl (hb hby at_301) rfl ?_
        refine XS.iconst X272.here hx rfl (hb hby at_304) ?_
        refine XS.goto X272.here hx rfl (pc0 := 305) (pc' := 319) rfl (hb hby at_305) (by decide) (by decide) ?_
        refine XS.istore X272.here hx rfl (hb hby at_319) rfl (l' := #[vi p1, vi p2, vi p3, vi p4, vi ca, vi cb, vi co, vi 1, vi 0, vr b200, vr b225, vr b226, vr b245, vi 1, vi 1, .val .null, .val .null, vi 1]) rfl ?_
        refine XS.iload X272.here hx rfl (hb hby at_321) rfl ?_
        refine XS.ifNo X272.here hx rfl (hb hby at_323) rfl ((if0 _ _).trans (feq ((by decide) : ¬ ((1 : Int32) = (0 : Int32)))).1) ?_
        refine XS.iload X272.here hx rfl (hb hby at_326) rfl ?_
        refine XS.ifNo X272.here hx rfl (hb hby at_328) rfl ((if0 _ _).trans (feq ((by decide) : ¬ ((1 : Int32) = (0 : Int32)))).1) ?_
        show Steps p.tables e below (T272.setTop (mkF m 331 #[vi p1, vi p2, vi p3, vi p4, vi ca, vi cb, vi co, vi 1, vi 0, vr b200, vr b225, vr b226, vr b245, vi 1, vi 1, .val .null, .val .null, vi 1] [])) _
        refine XS.iload X272.here hx rfl (hb hby at_331) rfl ?_
        refine XS.ifNo X272.here hx rfl (hb hby at_333) rfl ((if0 _ _).trans (feq ((by decide) : ¬ ((1 : Int32) = (0 : Int32)))).1) ?_
        refine XS.iconst X272.here hx rfl (hb hby at_336) ?_
        refine XS.goto X272.here hx rfl (pc0 := 337) (pc' := 341) rfl (hb hby at_337) (by decide) (by decide) ?_
        exact retN X272 hx (t := .boolean) Bd.returns (by simp) (hb hby at_341) hr
      · show Qrm0 Z p1 p2 p3 p4 cs5 w6 k7 h0 n0 _ T272.heap _
        exact ⟨rfl, N272⟩
    · have pre274 : ∀ t, Steps p.tables e below (s₁.setTop (mkF m 88 #[vi p1, vi p2, vi p3, vi p4, vi ca, vi cb, vi co, vi 1, vi 1, .unset, .unset, .unset, .unset, .unset, .unset, .unset, .unset, .unset] [(.int 61), (.int ca)])) t → Steps p.tables e below (s₁.setTop (entryFrame m #[(.int p1), (.int p2), (.int p3), (.int p4)] maxLocals)) t := fun t kt => pre195 t (by
        show Steps p.tables e below (s₁.setTop (mkF m 29 #[vi p1, vi p2, vi p3, vi p4, vi ca, vi cb, vi co, vi 1, .unset, .unset, .unset, .unset, .unset, .unset, .unset, .unset, .unset, .unset] [])) _
        refine XS.iloadN X0.here hx rfl (hb hby at_29) rfl ?_
        refine XS.iconst X0.here hx rfl (hb hby at_30) ?_
        refine XS.iand X0.here hx rfl (hb hby at_31) rfl ?_
        refine XS.ifNo X0.here hx rfl (hb hby at_32) rfl ((if0 _ _).trans (feq (h4 : ¬ ((p4 &&& (4 : Int32)) = (0 : Int32)))).1) ?_
        refine XS.iload X0.here hx rfl (hb hby at_35) rfl ?_
        refine XS.iconst X0.here hx rfl (hb hby at_37) ?_
        refine XS.icmpNo X0.here hx rfl (hb hby at_38) rfl (feq ((by decide) : ¬ ((1 : Int32) = (3 : Int32)))).1 ?_
        refine XS.iconst X0.here hx rfl (hb hby at_41) ?_
        refine XS.goto X0.here hx rfl (pc0 := 42) (pc' := 46) rfl (hb hby at_42) (by decide) (by decide) ?_
        refine XS.istore X0.here hx rfl (hb hby at_46) rfl (l' := #[vi p1, vi p2, vi p3, vi p4, vi ca, vi cb, vi co, vi 1, vi 1, .unset, .unset, .unset, .unset, .unset, .unset, .unset, .unset, .unset]) rfl ?_
        show Steps p.tables e below (s₁.setTop (mkF m 48 #[vi p1, vi p2, vi p3, vi p4, vi ca, vi cb, vi co, vi 1, vi 1, .unset, .unset, .unset, .unset, .unset, .unset, .unset, .unset, .unset] [])) _
        refine XS.iload X0.here hx rfl (hb hby at_48) rfl ?_
        refine XS.ifYes X0.here hx rfl (pc0 := 50) (pc' := 78) rfl (hb hby at_50) rfl ((if0 _ _).trans (feq ((by decide) : ¬ ((1 : Int32) = (0 : Int32)))).2) (by decide) (by decide) ?_
        refine XS.iload X0.here hx rfl (hb hby at_78) rfl ?_
        refine XS.iconst X0.here hx rfl (hb hby at_80) ?_
        refine XS.icmpNo X0.here hx rfl (hb hby at_81) rfl (teq ((by decide) : (1 : Int32) = (1 : Int32))).2 ?_
        refine XS.iload X0.here hx rfl (hb hby at_84) rfl ?_
        refine XS.bipush X0.here hx rfl (hb hby at_86) ?_
        exact kt)
      have pre275 : ∀ t, Steps p.tables e below (s₁.setTop (mkF m 98 #[vi p1, vi p2, vi p3, vi p4, vi ca, vi cb, vi co, vi 1, vi 1, .unset, .unset, .unset, .unset, .unset, .unset, .unset, .unset, .unset] [(.int (own_se ca (61 : Int32) (120 : Int32) ca))])) t → Steps p.tables e below (s₁.setTop (entryFrame m #[(.int p1), (.int p2), (.int p3), (.int p4)] maxLocals)) t := fun t kt => pre274 t (by
        by_cases hd_ : ca = (61 : Int32)
        · show Steps p.tables e below (s₁.setTop (mkF m 88 #[vi p1, vi p2, vi p3, vi p4, vi ca, vi cb, vi co, vi 1, vi 1, .unset, .unset, .unset, .unset, .unset, .unset, .unset, .unset, .unset] [(.int 61), (.int ca)])) _
          refine XS.icmpNo X0.here hx rfl (hb hby at_88) rfl (teq (hd_ : ca = (61 : Int32))).2 ?_
          refine XS.bipush X0.here hx rfl (hb hby at_91) ?_
          refine XS.goto X0.here hx rfl (pc0 := 93) (pc' := 98) rfl (hb hby at_93) (by decide) (by decide) ?_
          rw [show (own_se ca (61 : Int32) (120 : Int32) ca) = (120 : Int32) from if_pos hd_] at kt
          exact kt
        · show Steps p.tables e below (s₁.setTop (mkF m 88 #[vi p1, vi p2, vi p3, vi p4, vi ca, vi cb, vi co, vi 1, vi 1, .unset, .unset, .unset, .unset, .unset, .unset, .unset, .unset, .unset] [(.int 61), (.int ca)])) _
          refine XS.icmpYes X0.here hx rfl (pc0 := 88) (pc' := 96) rfl (hb hby at_88) rfl (feq (hd_ : ¬ (ca = (61 : Int32)))).2 (by decide) (by decide) ?_
          refine XS.iload X0.here hx rfl (hb hby at_96) rfl ?_
          rw [show (own_se ca (61 : Int32) (120 : Int32) ca) = ca from if_neg hd_] at kt
          exact kt)
      obtain ⟨la, h_la⟩ : ∃ z : Int32, z = (own_se ca (61 : Int32) (120 : Int32) ca) := ⟨_, rfl⟩
      obtain ⟨h0_la, h1_la, h2_la⟩ := own_la ca la (120) h0_ca h1_ca (by decide) (by decide) (by decide) h_la
      have pre276 : ∀ t, Steps p.tables e below (s₁.setTop (mkF m 104 #[vi p1, vi p2, vi p3, vi p4, vi ca, vi cb, vi co, vi 1, vi 1, .unset, vi la, .unset, .unset, .unset, .unset, .unset, .unset, .unset] [(.int 61), (.int cb)])) t → Steps p.tables e below (s₁.setTop (entryFrame m #[(.int p1), (.int p2), (.int p3), (.int p4)] maxLocals)) t := fun t kt => pre275 t (by
        show Steps p.tables e below (s₁.setTop (mkF m 98 #[vi p1, vi p2, vi p3, vi p4, vi ca, vi cb, vi co, vi 1, vi 1, .unset, .unset, .unset, .unset, .unset, .unset, .unset, .unset, .unset] [(.int (own_se ca (61 : Int32) (120 : Int32) ca))])) _
        rw [← h_la]
        refine XS.istore X0.here hx rfl (hb hby at_98) rfl (l' := #[vi p1, vi p2, vi p3, vi p4, vi ca, vi cb, vi co, vi 1, vi 1, .unset, vi la, .unset, .unset, .unset, .unset, .unset, .unset, .unset]) rfl ?_
        refine XS.iload X0.here hx rfl (hb hby at_100) rfl ?_
        refine XS.bipush X0.here hx rfl (hb hby at_102) ?_
        exact kt)
      have pre277 : ∀ t, Steps p.tables e below (s₁.setTop (mkF m 114 #[vi p1, vi p2, vi p3, vi p4, vi ca, vi cb, vi co, vi 1, vi 1, .unset, vi la, .unset, .unset, .unset, .unset, .unset, .unset, .unset] [(.int (own_se cb (61 : Int32) (121 : Int32) cb))])) t → Steps p.tables e below (s₁.setTop (entryFrame m #[(.int p1), (.int p2), (.int p3), (.int p4)] maxLocals)) t := fun t kt => pre276 t (by
        by_cases hd_ : cb = (61 : Int32)
        · show Steps p.tables e below (s₁.setTop (mkF m 104 #[vi p1, vi p2, vi p3, vi p4, vi ca, vi cb, vi co, vi 1, vi 1, .unset, vi la, .unset, .unset, .unset, .unset, .unset, .unset, .unset] [(.int 61), (.int cb)])) _
          refine XS.icmpNo X0.here hx rfl (hb hby at_104) rfl (teq (hd_ : cb = (61 : Int32))).2 ?_
          refine XS.bipush X0.here hx rfl (hb hby at_107) ?_
          refine XS.goto X0.here hx rfl (pc0 := 109) (pc' := 114) rfl (hb hby at_109) (by decide) (by decide) ?_
          rw [show (own_se cb (61 : Int32) (121 : Int32) cb) = (121 : Int32) from if_pos hd_] at kt
          exact kt
        · show Steps p.tables e below (s₁.setTop (mkF m 104 #[vi p1, vi p2, vi p3, vi p4, vi ca, vi cb, vi co, vi 1, vi 1, .unset, vi la, .unset, .unset, .unset, .unset, .unset, .unset, .unset] [(.int 61), (.int cb)])) _
          refine XS.icmpYes X0.here hx rfl (pc0 := 104) (pc' := 112) rfl (hb hby at_104) rfl (feq (hd_ : ¬ (cb = (61 : Int32)))).2 (by decide) (by decide) ?_
          refine XS.iload X0.here hx rfl (hb hby at_112) rfl ?_
          rw [show (own_se cb (61 : Int32) (121 : Int32) cb) = cb from if_neg hd_] at kt
          exact kt)
      obtain ⟨lb, h_lb⟩ : ∃ z : Int32, z = (own_se cb (61 : Int32) (121 : Int32) cb) := ⟨_, rfl⟩
      obtain ⟨h0_lb, h1_lb, h2_lb⟩ := own_la cb lb (121) h0_cb h1_cb (by decide) (by decide) (by decide) h_lb
      obtain ⟨T278, h278, X278, e278, E278, A278, D278, U278, st278⟩ := newO X0 hx hZ hown (W hw 0 rfl) (W hw 1 rfl) (W hw 2 rfl) e0 (g := (mkF m 116 #[vi p1, vi p2, vi p3, vi p4, vi ca, vi cb, vi co, vi 1, vi 1, .unset, vi la, vi lb, .unset, .unset, .unset, .unset, .unset, .unset] [])) rfl (hb hby at_116) (by decide) (by decide)
      obtain ⟨b278, g278⟩ : ∃ z, z = h0.size := ⟨_, rfl⟩
      rw [← g278] at A278 D278 U278 st278
      have g_b278 := own_born O0 (own_eqle g278)
      have sz_b278 := Nat.le_trans (Keep.refl h0 []).1 (own_eqle g278)
      have K278 := (Keep.refl h0 []).ext E278
      have O278 := O0.ext E278
      have F278_coder : Fld Z h278 b278 "java/lang/String" "coder" "B" (.int 0) := D278 (Or.inr (W hw 27 rfl)) (ty := .byte) (by decide)
      have F278_value : Fld Z h278 b278 "java/lang/String" "value" "[B" .null := D278 (Or.inr (W hw 29 rfl)) (ty := (.array .byte)) (by decide)
      obtain ⟨T279, h279, k279, X279, e279, E279, A279, B279, st279⟩ := newPE X278 hx hZ (W hw 3 rfl) e278 (g := (mkF m 121 #[vi p1, vi p2, vi p3, vi p4, vi ca, vi cb, vi co, vi 1, vi 1, .unset, vi la, vi lb, .unset, .unset, .unset, .unset, .unset, .unset] [(.int 4), (.ref b278), (.ref b278)])) rfl (hb hby at_121) rfl (by decide) (cap := 4) (by decide) (by decide) (by decide) (by decide) (ad := "[C") (by decide)
      obtain ⟨b279, g279⟩ : ∃ z, z = h278.size := ⟨_, rfl⟩
      rw [← g279] at A279 B279 st279
      have ne280 := (own_ltn A278.lt (own_eqle g279))
      have g_b279 := own_born O278 (own_eqle g279)
      have sz_b279 := Nat.le_trans K278.1 (own_eqle g279)
      have K279 := K278.ext E279
      have O279 := O278.ext E279
      have V279 : Arv Z h279 b279 k279 .char (4 : Int32) [] (.int 0) := Arv.new A279 (by decide)
      have V281 : Arv Z h279 b279 k279 .char (4 : Int32) [(.int 0)] (.int 0) := V279.pad (pad_rep [] (.int 0) 1)
      obtain ⟨cl282, Ar282, q282, S282, M282, Hs282, G282⟩ := id V281
      have hin282 : ¬ ((0 : Int32) < 0 ∨ cl282.slots.size ≤ ((0 : Int32)).toNatClampNeg) := inb_of S282 ⟨by decide, by decide⟩
      obtain ⟨T283, h283, X283, e283, W283, st283⟩ := stC X279 hx hZ e279 Ar282 (j := (0 : Int32)) hin282 (g := (mkF m 127 #[vi p1, vi p2, vi p3, vi p4, vi ca, vi cb, vi co, vi 1, vi 1, .unset, vi la, vi lb, .unset, .unset, .unset, .unset, .unset, .unset] [(.int 45), (.int 0), (.ref b279), (.ref b279), (.ref b278), (.ref b278)])) rfl rfl (hb hby at_127)
      have K283 := K279.wr W283 (Or.inr sz_b279)
      have O283 := O279.wr W283 g_b279
      have N283 := Fr.snoc X283 N0 g_b279
      have Vw283 : Arv Z h283 b279 k279 .char (4 : Int32) [(.int (nar .char (45 : Int32)))] (.int 0) := Arv.set Ar282 q282 S282 M282 Hs282 G282 (fits_nar_char _) W283 0 rfl (Nat.le_of_ble_eq_true rfl)
      have V284 : Arv Z h283 b279 k279 .char (4 : Int32) [(.int (nar .char (45 : Int32))), (.int 0)] (.int 0) := Vw283.pad (pad_rep [(.int (nar .char (45 : Int32)))] (.int 0) 1)
      obtain ⟨cl285, Ar285, q285, S285, M285, Hs285, G285⟩ := id V284
      have hin285 : ¬ ((1 : Int32) < 0 ∨ cl285.slots.size ≤ ((1 : Int32)).toNatClampNeg) := inb_of S285 ⟨by decide, by decide⟩
      obtain ⟨T286, h286, X286, e286, W286, st286⟩ := stC X283 hx hZ e283 Ar285 (j := (1 : Int32)) hin285 (g := (mkF m 132 #[vi p1, vi p2, vi p3, vi p4, vi ca, vi cb, vi co, vi 1, vi 1, .unset, vi la, vi lb, .unset, .unset, .unset, .unset, .unset, .unset] [(.int 45), (.int 1), (.ref b279), (.ref b279), (.ref b278), (.ref b278)])) rfl rfl (hb hby at_132)
      have K286 := K283.wr W286 (Or.inr sz_b279)
      have O286 := O283.wr W286 g_b279
      have N286 := Fr.snoc X286 N283 g_b279
      have Vw286 : Arv Z h286 b279 k279 .char (4 : Int32) [(.int (nar .char (45 : Int32))), (.int (nar .char (45 : Int32)))] (.int 0) := Arv.set Ar285 q285 S285 M285 Hs285 G285 (fits_nar_char _) W286 1 rfl (Nat.le_of_ble_eq_true rfl)
      have V287 : Arv Z h286 b279 k279 .char (4 : Int32) [(.int (nar .char (45 : Int32))), (.int (nar .char (45 : Int32))), (.int 0)] (.int 0) := Vw286.pad (pad_rep [(.int (nar .char (45 : Int32))), (.int (nar .char (45 : Int32)))] (.int 0) 1)
      obtain ⟨cl288, Ar288, q288, S288, M288, Hs288, G288⟩ := id V287
      have hin288 : ¬ ((2 : Int32) < 0 ∨ cl288.slots.size ≤ ((2 : Int32)).toNatClampNeg) := inb_of S288 ⟨by decide, by decide⟩
      obtain ⟨T289, h289, X289, e289, W289, st289⟩ := stC X286 hx hZ e286 Ar288 (j := (2 : Int32)) hin288 (g := (mkF m 137 #[vi p1, vi p2, vi p3, vi p4, vi ca, vi cb, vi co, vi 1, vi 1, .unset, vi la, vi lb, .unset, .unset, .unset, .unset, .unset, .unset] [(.int la), (.int 2), (.ref b279), (.ref b279), (.ref b278), (.ref b278)])) rfl rfl (hb hby at_137)
      have K289 := K286.wr W289 (Or.inr sz_b279)
      have O289 := O286.wr W289 g_b279
      have N289 := Fr.snoc X289 N286 g_b279
      have Vw289 : Arv Z h289 b279 k279 .char (4 : Int32) [(.int (nar .char (45 : Int32))), (.int (nar .char (45 : Int32))), (.int (nar .char la))] (.int 0) := Arv.set Ar288 q288 S288 M288 Hs288 G288 (fits_nar_char _) W289 2 rfl (Nat.le_of_ble_eq_true rfl)
      have V290 : Arv Z h289 b279 k279 .char (4 : Int32) [(.int (nar .char (45 : Int32))), (.int (nar .char (45 : Int32))), (.int (nar .char la)), (.int 0)] (.int 0) := Vw289.pad (pad_rep [(.int (nar .char (45 : Int32))), (.int (nar .char (45 : Int32))), (.int (nar .char la))] (.int 0) 1)
      obtain ⟨cl291, Ar291, q291, S291, M291, Hs291, G291⟩ := id V290
      have hin291 : ¬ ((3 : Int32) < 0 ∨ cl291.slots.size ≤ ((3 : Int32)).toNatClampNeg) := inb_of S291 ⟨by decide, by decide⟩
      obtain ⟨T292, h292, X292, e292, W292, st292⟩ := stC X289 hx hZ e289 Ar291 (j := (3 : Int32)) hin291 (g := (mkF m 142 #[vi p1, vi p2, vi p3, vi p4, vi ca, vi cb, vi co, vi 1, vi 1, .unset, vi la, vi lb, .unset, .unset, .unset, .unset, .unset, .unset] [(.int lb), (.int 3), (.ref b279), (.ref b279), (.ref b278), (.ref b278)])) rfl rfl (hb hby at_142)
      have K292 := K289.wr W292 (Or.inr sz_b279)
      have O292 := O289.wr W292 g_b279
      have N292 := Fr.snoc X292 N289 g_b279
      have Vw292 : Arv Z h292 b279 k279 .char (4 : Int32) [(.int (nar .char (45 : Int32))), (.int (nar .char (45 : Int32))), (.int (nar .char la)), (.int (nar .char lb))] (.int 0) := Arv.set Ar291 q291 S291 M291 Hs291 G291 (fits_nar_char _) W292 3 rfl (Nat.le_of_ble_eq_true rfl)
      have f293 := (((((A278.ext E279).wr W283).wr W286).wr W289).wr W292)
      have f294 := (((((F278_coder.ext E279).other W283 (Or.inl ne280)).other W286 (Or.inl ne280)).other W289 (Or.inl ne280)).other W292 (Or.inl ne280))
      have f295 := (((((F278_value.ext E279).other W283 (Or.inl ne280)).other W286 (Or.inl ne280)).other W289 (Or.inl ne280)).other W292 (Or.inl ne280))
      obtain ⟨_, T296, L296, X296, hQ296, st296⟩ := cI X292 hx hZ hown (W hw 4 rfl) (W hw 5 rfl) (W hw 6 rfl) (W hw 2 rfl) rfl (by decide) (rm1_1 l Z a0 hw [] b278 b279 k279 (nar .char (45 : Int32)) (nar .char (45 : Int32)) (nar .char la) (nar .char lb) cs5 h292 n0 O292 Vw292 S_cs hcs (by decide) (by decide) (own_c1 la h0_la h1_la) (own_c1 lb h0_lb h1_lb) f293 f294 g_b278 f295) e292 #[vi p1, vi p2, vi p3, vi p4, vi ca, vi cb, vi co, vi 1, vi 1, .unset, vi la, vi lb, .unset, .unset, .unset, .unset, .unset, .unset] [(.ref b278)] (by rw [hml]; rfl) (hb hby at_143) pd_6 rfl (W := 1) (Nat.le_of_eq rfl) (by decide) (by decide) (by decide) (by decide)
      obtain ⟨b297, k298, rfl, Nq296, K296, sq296_b297, P296_0, P296_1, P296_2, P296_3, P296_4⟩ := hQ296
      have N296 := Fr.app N292 Nq296
      have KK296 := Keep.trans (h := h292) K292 K296 (allS (Or.inr sz_b278) all0)
      have O296 := O292.keep K296 (allS g_b278 all0)
      obtain ⟨T302, Lc302, X302, Nq302, hQ302⟩ := sg0_189_213_1 hw p1 p2 p3 p4 ca cb co (1 : Int32) (1 : Int32) b278 la lb cs5 w6 k7 T296.heap n0 O296 S_cs hcs h1_co S_D V_D P296_0 X296 hx hZ hby hml hown rfl N296 (by decide) (by decide) (by decide) (by decide)
      obtain ⟨b303, b304, b305, b306, k307, k308, K302, sq302_b303, sq302_b304, sq302_b305, sq302_b306, P302_0, P302_1, P302_2, P302_3, P302_4, P302_5, P302_6, P302_7, P302_8, P302_9, P302_10, P302_11, P302_12, P302_13, P302_14, P302_15, P302_16, P302_17, st302⟩ := hQ302
      have ne313 := (own_ltn P296_0.lt sq302_b304)
      have ne315 := (own_ltn P296_3.lt sq302_b304)
      have g_b304 := own_born O296 sq302_b304
      have sz_b304 := Nat.le_trans KK296.1 sq302_b304
      have ne319 := (own_ltn P296_0.lt sq302_b306)
      have ne321 := (own_ltn P296_3.lt sq302_b306)
      have g_b306 := own_born O296 sq302_b306
      have sz_b306 := Nat.le_trans KK296.1 sq302_b306
      have KK302 := Keep.trans (h := T296.heap) KK296 K302 all0
      have O302 := O296.keep K302 all0
      obtain ⟨T322, Lc322, X322, Nq322, hQ322⟩ := sg0_218_226 hw p1 p2 p3 p4 ca cb co (1 : Int32) (1 : Int32) b278 b303 b304 b306 k308 T302.heap n0 O302 P302_9 P302_12 g_b304 P302_10 P302_11 P302_17 g_b306 P302_6 P302_16 P302_15 P302_4 X302 hx hZ hby hml hown rfl Nq302 (by decide) (by decide) (by decide) (by decide)
      obtain ⟨K322, P322_0, P322_1, P322_2, P322_3, P322_4, P322_5, st322⟩ := hQ322
      have KK322 := Keep.trans (h := T302.heap) KK302 K322 (allS (Or.inr sz_b304) (allS (Or.inr sz_b306) all0))
      have O322 := O302.keep K322 (allS g_b304 (allS g_b306 all0))
      obtain ⟨T323, Lc323, X323, Nq323, hQ323⟩ := sg0_226_237 hw p1 p2 p3 p4 ca cb co (1 : Int32) (1 : Int32) b278 b303 b304 T322.heap n0 O322  X322 hx hZ hby hml hown rfl Nq322 (by decide) (by decide) (by decide) (by decide)
      obtain ⟨b324, K323, sq323_b324, P323_0, P323_1, P323_2, P323_3, P323_4, st323⟩ := hQ323
      have f325 := ((P296_0.keep K302).keep K322)
      have ne326 := (own_ltn f325.lt sq323_b324)
      have f329 := ((P296_3.keep K302).keep K322)
      have ne330 := (own_ltn f329.lt sq323_b324)
      have f331 := (P302_6.keep K322)
      have ne333 := (own_ltn P322_0.lt sq323_b324)
      have ne336 := (own_ltn P322_4.lt sq323_b324)
      have g_b324 := own_born O322 sq323_b324
      have KK323 := Keep.trans (h := T322.heap) KK322 K323 all0
      have O323 := O322.keep K323 all0
      have f337 := (P322_0.keep K323)
      have f338 := (P322_1.keep K323 nin0)
      have f339 := (P322_3.keep K323 nin0)
      have f340 := (P322_5.keep K323 nin0)
      have f341 := (f325.keep K323)
      have f342 := (((P296_1.keep K302 nin0).keep K322 (ninS ne313 (ninS ne319 nin0))).keep K323 nin0)
      have f343 := (((P296_2.keep K302 nin0).keep K322 (ninS ne313 (ninS ne319 nin0))).keep K323 nin0)
      have f344 := (((P296_4.keep K302 nin0).keep K322 (ninS ne315 (ninS ne321 nin0))).keep K323 nin0)
      obtain ⟨cq345, kq345, q345a, q345b, q345c⟩ := isOf hZ rfl P323_0
      obtain ⟨_, _, ⟨T345, L345, k345, n345⟩, -, X345, h2345, hg345, ⟨Lc345, hQ345, l345, y345, z345⟩, st345⟩ := X323.virtualBackS hx (y := (⟨"com/example/runqueue/runqueue/Arguments", "nextOption", "()Ljava/lang/String;"⟩ : MethodName)) (z := (⟨"com/example/runqueue/runqueue/Arguments", "nextOption", "()Ljava/lang/String;"⟩ : MethodName)) hown (mvT hZ (W hw 108 rfl)) (mvT hZ (W hw 109 rfl)) (notFace_of_selects (args := #[]) (mvT hZ (W hw 111 rfl))) (mvT hZ (W hw 111 rfl)) (mvT hZ (W hw 110 rfl)) (by decide) (own_backOfSH (s := s) (vm0 := s.vm) (W := 0) (rm20_5 l Z a0 hw [] b324 b304 b306 k308 b278 b303 cs5 b297 k298 (nar .byte ((nar .char (45 : Int32)).toInt8.toInt32)) (nar .byte ((nar .char (45 : Int32)).toInt8.toInt32)) (nar .byte ((nar .char la).toInt8.toInt32)) (nar .byte ((nar .char lb).toInt8.toInt32)) T323.heap n0 O323 P323_2 P323_1 f337 f338 f339 f340 f341 g_b278 S_cs hcs f342 f343 f344 (by decide) P323_0 g_b324 P323_3 P323_4 ne326 ne330 (by decide) (by decide) (by decide) (fun q => h2_la ((own_b61 la h0_la h1_la).mp q)) (fun q => h2_lb ((own_b61 lb h0_lb h1_lb).mp q))) hZ (W hw 112 rfl) (W hw 101 rfl) (by decide) (by decide) (own_EW hw) (own_CH.keep KK323 hCH)) q345a q345c (g := (mkF m 239 #[vi p1, vi p2, vi p3, vi p4, vi ca, vi cb, vi co, vi 1, vi 1, vr b278, vr b303, vr b304, vr b324, .unset, .unset, .unset, .unset, .unset] [(.ref b324)])) rfl (by rw [hml]; rfl) (Steps.refl _) (argsL := []) (rest := []) (lenOf pd_29 rfl) rfl (by show 2 * 0 + _ ≤ _; exact Nat.le_of_eq rfl) (hb hby at_239) (fun _ _ => ⟨rfl, rfl, (by decide : 8 + 8 ≤ _), (by decide : 34 + 40 ≤ _)⟩)
      dsimp only [Pt.U, Pt.locs, Pt.cells, Pt.slots] at X345 l345 y345 z345 st345 hQ345 h2345 hg345
      subst l345 y345 z345
      obtain ⟨X345, hS345, hZ345, hown345⟩ := rebS (s := s) (vm0 := s.vm) hS0 (show _ ≤ T323.heap.size from (Nat.le_trans (Nat.le_trans (Nat.le_trans (Nat.le_trans (Nat.le_trans (Nat.le_trans (Nat.le_trans (Nat.le_trans (Nat.le_trans (Nat.le_trans (Nat.zero_le _) E278.1) E279.1) (Keep.of_wr W283).1) (Keep.of_wr W286).1) (Keep.of_wr W289).1) (Keep.of_wr W292).1) K296.1) K302.1) K322.1) K323.1)) X345 h2345 hg345 hZ hown
      obtain ⟨rfl, Nq345, K345, P345_0, P345_1, P345_2, P345_3, P345_4⟩ := hQ345
      have N345 := Fr.app Nq323 Nq345
      have O345 := O323.keep K345 (allS g_b324 all0)
      obtain ⟨_, T346, L346, X346, hQ346, st346⟩ := cV X345 hx hZ345 hown345 (W hw 214 rfl) (W hw 215 rfl) (notFace_of_selects (args := #[]) (mvT hZ345 (W hw 217 rfl))) (W hw 217 rfl) (W hw 216 rfl) (W hw 218 rfl) (W hw 101 rfl) (by decide) (rm40 l Z a0 hw [] b324 T345.heap n0 O345 P345_4) rfl P345_2 #[vi p1, vi p2, vi p3, vi p4, vi ca, vi cb, vi co, vi 1, vi 1, vr b278, vr b303, vr b304, vr b324, .unset, .unset, .unset, .unset, .unset] [] (by rw [hml]; rfl) (hb hby at_245) pd_30 rfl (W := 0) (Nat.le_of_eq rfl) (by decide) (by decide) (by decide) (by decide)
      obtain ⟨rfl, Nq346, e346⟩ := hQ346
      have N346 := Fr.app N345 Nq346
      obtain ⟨_, T347, L347, X347, hQ347, st347⟩ := cV X346 hx hZ345 hown345 (W hw 214 rfl) (W hw 215 rfl) (notFace_of_selects (args := #[]) (mvT hZ345 (W hw 217 rfl))) (W hw 217 rfl) (W hw 216 rfl) (W hw 218 rfl) (W hw 101 rfl) (by decide) (rm40 l Z a0 hw [] b324 T345.heap n0 O345 P345_4) e346 P345_2 #[vi p1, vi p2, vi p3, vi p4, vi ca, vi cb, vi co, vi 1, vi 1, vr b278, vr b303, vr b304, vr b324, vi 1, .unset, .unset, .unset, .unset] [] (by rw [hml]; rfl) (hb hby at_252) pd_30 rfl (W := 0) (Nat.le_of_eq rfl) (by decide) (by decide) (by decide) (by decide)
      obtain ⟨rfl, Nq347, e347⟩ := hQ347
      have N347 := Fr.app N346 Nq347
      obtain ⟨b348, T348, h348, k348, X348, e348, E348, hS348, hk348, hZ348, hown348, st348⟩ := ldcS (s := s) (vm0 := T345.vm) X347 hx hZ345 hown345 (W hw 219 rfl) (own_wS hw) e347 hS345 (Nat.le_refl _) (g := (mkF m 259 #[vi p1, vi p2, vi p3, vi p4, vi ca, vi cb, vi co, vi 1, vi 1, vr b278, vr b303, vr b304, vr b324, vi 1, vi 1, .unset, .unset, .unset] [(.ref b324)])) rfl (hb hby at_259) (n := 4) (by decide) (by decide) (by decide) (by decide)
      have O348 := O345.ext E348
      have f349 := (P345_1.ext E348)
      have f350 := ((f337.keep K345).ext E348)
      have f351 := ((f338.keep K345 (ninS ne333 nin0)).ext E348)
      have f352 := (P345_0.ext E348)
      have f353 := ((f339.keep K345 (ninS ne333 nin0)).ext E348)
      have f354 := ((f340.keep K345 (ninS ne336 nin0)).ext E348)
      have f355 := (((f331.keep K323).keep K345).ext E348)
      have f357 := (P345_2.ext E348)
      obtain ⟨_, T356, L356, X356, hQ356, st356⟩ := cV X348 hx hZ348 hown348 (W hw 220 rfl) (W hw 221 rfl) (notFace_of_selects (args := #[]) (mvT hZ348 (W hw 223 rfl))) (W hw 223 rfl) (W hw 222 rfl) (W hw 224 rfl) (W hw 101 rfl) (by decide) (rm41_1 l Z a0 hw [] b324 b348 b304 b306 k308 b278 b303 h348 n0 O348 f349 f350 f351 f352 f353 f354 f355) e348 f357 #[vi p1, vi p2, vi p3, vi p4, vi ca, vi cb, vi co, vi 1, vi 1, vr b278, vr b303, vr b304, vr b324, vi 1, vi 1, .unset, .unset, .unset] [] (by rw [hml]; rfl) (hb hby at_261) pd_31 rfl (W := 0) (Nat.le_of_eq rfl) (by decide) (by decide) (by decide) (by decide)
      obtain ⟨rfl, Nq356, e356⟩ := hQ356
      have N356 := Fr.app N347 Nq356
      obtain ⟨_, T358, L358, X358, hQ358, st358⟩ := cV X356 hx hZ348 hown348 (W hw 238 rfl) (W hw 150 rfl) (notFace_of_selects (args := #[]) (mvT hZ348 (W hw 152 rfl))) (W hw 152 rfl) (W hw 151 rfl) (W hw 153 rfl) (W hw 2 rfl) (by decide) (rm26_3 l Z a0 hw [] b303 h348 n0 O348 ) e356 f355 #[vi p1, vi p2, vi p3, vi p4, vi ca, vi cb, vi co, vi 1, vi 1, vr b278, vr b303, vr b304, vr b324, vi 1, vi 1, vr b303, vr b303, .unset] [] (by rw [hml]; rfl) (hb hby at_316) pd_20 rfl (W := 0) (Nat.le_of_eq rfl) (by decide) (by decide) (by decide) (by decide)
      obtain ⟨rfl, Nq358, e358⟩ := hQ358
      have N358 := Fr.app N356 Nq358
      obtain ⟨fs, hr, hrun, hended, hREW⟩ := X358.leaveW (s := s) hS348 (by rw [e358]; exact hk348) (v := some (.int 1)) (fun h => by rw [Bd.returns] at h; cases h)
      refine ⟨_, _, pre277 _ ?_, hrun, hended, _, _, rfl, ?_, hREW.1, hREW.2.1, hREW.2.2.1, hREW.2.2.2.mono (by decide) (by decide)⟩
      · show Steps p.tables e below (s₁.setTop (mkF m 114 #[vi p1, vi p2, vi p3, vi p4, vi ca, vi cb, vi co, vi 1, vi 1, .unset, vi la, .unset, .unset, .unset, .unset, .unset, .unset, .unset] [(.int (own_se cb (61 : Int32) (121 : Int32) cb))])) _
        rw [← h_lb]
        refine XS.istore X0.here hx rfl (hb hby at_114) rfl (l' := #[vi p1, vi p2, vi p3, vi p4, vi ca, vi cb, vi co, vi 1, vi 1, .unset, vi la, vi lb, .unset, .unset, .unset, .unset, .unset, .unset]) rfl ?_
        refine st278 _ ?_
        refine XS.dup X278.here hx rfl (hb hby at_119) rfl rfl ?_
        refine XS.iconst X278.here hx rfl (hb hby at_120) ?_
        refine st279 _ ?_
        refine XS.dup X279.here hx rfl (hb hby at_123) rfl rfl ?_
        refine XS.iconst X279.here hx rfl (hb hby at_124) ?_
        refine XS.bipush X279.here hx rfl (hb hby at_125) ?_
        refine st283 _ ?_
        show Steps p.tables e below (T283.setTop (mkF m 128 #[vi p1, vi p2, vi p3, vi p4, vi ca, vi cb, vi co, vi 1, vi 1, .unset, vi la, vi lb, .unset, .unset, .unset, .unset, .unset, .unset] [(.ref b279), (.ref b278), (.ref b278)])) _
        refine XS.dup X283.here hx rfl (hb hby at_128) rfl rfl ?_
        refine XS.iconst X283.here hx rfl (hb hby at_129) ?_
        refine XS.bipush X283.here hx rfl (hb hby at_130) ?_
        refine st286 _ ?_
        refine XS.dup X286.here hx rfl (hb hby at_133) rfl rfl ?_
        refine XS.iconst X286.here hx rfl (hb hby at_134) ?_
        refine XS.iload X286.here hx rfl (hb hby at_135) rfl ?_
        refine st289 _ ?_
        refine XS.dup X289.here hx rfl (hb hby at_138) rfl rfl ?_
        refine XS.iconst X289.here hx rfl (hb hby at_139) ?_
        show Steps p.tables e below (T289.setTop (mkF m 140 #[vi p1, vi p2, vi p3, vi p4, vi ca, vi cb, vi co, vi 1, vi 1, .unset, vi la, vi lb, .unset, .unset, .unset, .unset, .unset, .unset] [(.int 3), (.ref b279), (.ref b279), (.ref b278), (.ref b278)])) _
        refine XS.iload X289.here hx rfl (hb hby at_140) rfl ?_
        refine st292 _ ?_
        refine st296 _ ?_
        refine XS.astore X296.here hx rfl (hb hby at_146) rfl rfl (l' := #[vi p1, vi p2, vi p3, vi p4, vi ca, vi cb, vi co, vi 1, vi 1, vr b278, vi la, vi lb, .unset, .unset, .unset, .unset, .unset, .unset]) rfl ?_
        refine XS.goto X296.here hx rfl (pc0 := 148) (pc' := 189) rfl (hb hby at_148) (by decide) (by decide) ?_
        refine st302 _ ?_
        refine XS.iload X302.here hx rfl (hb hby at_213) rfl ?_
        refine XS.ifNo X302.here hx rfl (hb hby at_215) rfl ((if0 _ _).trans (feq ((by decide) : ¬ ((1 : Int32) = (0 : Int32)))).1) ?_
        refine st322 _ ?_
        refine st323 _ ?_
        show Steps p.tables e below (T323.setTop (mkF m 237 #[vi p1, vi p2, vi p3, vi p4, vi ca, vi cb, vi co, vi 1, vi 1, vr b278, vr b303, vr b304, vr b324, .unset, .unset, .unset, .unset, .unset] [])) _
        refine XS.aload X323.here hx rfl (hb hby at_237) rfl rfl ?_
        refine st345.trans ?_
        refine XS.pop X345.here hx rfl (hb hby at_242) rfl rfl ?_
        refine XS.aload X345.here hx rfl (hb hby at_243) rfl rfl ?_
        refine st346 _ ?_
        refine XS.istore X346.here hx rfl (hb hby at_248) rfl (l' := #[vi p1, vi p2, vi p3, vi p4, vi ca, vi cb, vi co, vi 1, vi 1, vr b278, vr b303, vr b304, vr b324, vi 1, .unset, .unset, .unset, .unset]) rfl ?_
        refine XS.aload X346.here hx rfl (hb hby at_250) rfl rfl ?_
        refine st347 _ ?_
        refine XS.istore X347.here hx rfl (hb hby at_255) rfl (l' := #[vi p1, vi p2, vi p3, vi p4, vi ca, vi cb, vi co, vi 1, vi 1, vr b278, vr b303, vr b304, vr b324, vi 1, vi 1, .unset, .unset, .unset]) rfl ?_
        refine XS.aload X347.here hx rfl (hb hby at_257) rfl rfl ?_
        show Steps p.tables e below (T347.setTop (mkF m 259 #[vi p1, vi p2, vi p3, vi p4, vi ca, vi cb, vi co, vi 1, vi 1, vr b278, vr b303, vr b304, vr b324, vi 1, vi 1, .unset, .unset, .unset] [(.ref b324)])) _
        refine st348 _ ?_
        refine st356 _ ?_
        refine XS.astore X356.here hx rfl (hb hby at_264) rfl rfl (l' := #[vi p1, vi p2, vi p3, vi p4, vi ca, vi cb, vi co, vi 1, vi 1, vr b278, vr b303, vr b304, vr b324, vi 1, vi 1, vr b303, .unset, .unset]) rfl ?_
        refine XS.iload X356.here hx rfl (hb hby at_266) rfl ?_
        refine XS.iconst X356.here hx rfl (hb hby at_268) ?_
        refine XS.icmpYes X356.here hx rfl (pc0 := 269) (pc' := 279) rfl (hb hby at_269) rfl (feq ((by decide) : ¬ ((1 : Int32) = (3 : Int32)))).2 (by decide) (by decide) ?_
        refine XS.iload X356.here hx rfl (hb hby at_279) rfl ?_
        refine XS.ifNo X356.here hx rfl (hb hby at_281) rfl ((if0 _ _).trans (feq ((by decide) : ¬ ((1 : Int32) = (0 : Int32)))).1) ?_
        refine XS.aload X356.here hx rfl (hb hby at_284) rfl rfl ?_
        refine XS.astore X356.here hx rfl (hb hby at_286) rfl rfl (l' := #[vi p1, vi p2, vi p3, vi p4, vi ca, vi cb, vi co, vi 1, vi 1, vr b278, vr b303, vr b304, vr b324, vi 1, vi 1, vr b303, vr b303, .unset]) rfl ?_
        show Steps p.tables e below (T356.setTop (mkF m 288 #[vi p1, vi p2, vi p3, vi p4, vi ca, vi cb, vi co, vi 1, vi 1, vr b278, vr b303, vr b304, vr b324, vi 1, vi 1, vr b303, vr b303, .unset] [])) _
        refine XS.goto X356.here hx rfl (pc0 := 288) (pc' := 294) rfl (hb hby at_288) (by decide) (by decide) ?_
        refine XS.aload X356.here hx rfl (hb hby at_294) rfl rfl ?_
        refine XS.ifnonnullYes X356.here hx rfl (pc0 := 296) (pc' := 312) rfl (hb hby at_296) rfl (by decide) (by decide) ?_
        refine XS.aload X356.here hx rfl (hb hby at_312) rfl rfl ?_
        refine XS.aload X356.here hx rfl (hb hby at_314) rfl rfl ?_
        refine st358 _ ?_
        refine XS.istore X358.here hx rfl (hb hby at_319) rfl (l' := #[vi p1, vi p2, vi p3, vi p4, vi ca, vi cb, vi co, vi 1, vi 1, vr b278, vr b303, vr b304, vr b324, vi 1, vi 1, vr b303, vr b303, vi 1]) rfl ?_
        refine XS.iload X358.here hx rfl (hb hby at_321) rfl ?_
        refine XS.ifNo X358.here hx rfl (hb hby at_323) rfl ((if0 _ _).trans (feq ((by decide) : ¬ ((1 : Int32) = (0 : Int32)))).1) ?_
        refine XS.iload X358.here hx rfl (hb hby at_326) rfl ?_
        show Steps p.tables e below (T358.setTop (mkF m 328 #[vi p1, vi p2, vi p3, vi p4, vi ca, vi cb, vi co, vi 1, vi 1, vr b278, vr b303, vr b304, vr b324, vi 1, vi 1, vr b303, vr b303, vi 1] [(.int 1)])) _
        refine XS.ifNo X358.here hx rfl (hb hby at_328) rfl ((if0 _ _).trans (feq ((by decide) : ¬ ((1 : Int32) = (0 : Int32)))).1) ?_
        refine XS.iload X358.here hx rfl (hb hby at_331) rfl ?_
        refine XS.ifNo X358.here hx rfl (hb hby at_333) rfl ((if0 _ _).trans (feq ((by decide) : ¬ ((1 : Int32) = (0 : Int32)))).1) ?_
        refine XS.iconst X358.here hx rfl (hb hby at_336) ?_
        refine XS.goto X358.here hx rfl (pc0 := 337) (pc' := 341) rfl (hb hby at_337) (by decide) (by decide) ?_
        exact retN X358 hx (t := .boolean) Bd.returns (by simp) (hb hby at_341) hr
      · show Qrm0 Z p1 p2 p3 p4 cs5 w6 k7 h0 n0 _ T358.heap _
        exact ⟨rfl, N358⟩
  · have pre359 : ∀ t, Steps p.tables e below (s₁.setTop (mkF m 29 #[vi p1, vi p2, vi p3, vi p4, vi ca, vi cb, vi co, vi 2, .unset, .unset, .unset, .unset, .unset, .unset, .unset, .unset, .unset, .unset] [])) t → Steps p.tables e below (s₁.setTop (entryFrame m #[(.int p1), (.int p2), (.int p3), (.int p4)] maxLocals)) t := fun t kt => pre8 t (by
      show Steps p.tables e below (s₁.setTop (mkF m 29 #[vi p1, vi p2, vi p3, vi p4, vi ca, vi cb, vi co, vi kd, .unset, .unset, .unset, .unset, .unset, .unset, .unset, .unset, .unset, .unset] [])) _
      rw [hk]
      exact kt)
    by_cases h4 : (p4 &&& (4 : Int32)) = (0 : Int32)
    · obtain ⟨T360, h360, X360, e360, E360, A360, D360, U360, st360⟩ := newO X0 hx hZ hown (W hw 0 rfl) (W hw 1 rfl) (W hw 2 rfl) e0 (g := (mkF m 157 #[vi p1, vi p2, vi p3, vi p4, vi ca, vi cb, vi co, vi 2, vi 0, .unset, .unset, .unset, .unset, .unset, .unset, .unset, .unset, .unset] [])) rfl (hb hby at_157) (by decide) (by decide)
      obtain ⟨b360, g360⟩ : ∃ z, z = h0.size := ⟨_, rfl⟩
      rw [← g360] at A360 D360 U360 st360
      have g_b360 := own_born O0 (own_eqle g360)
      have sz_b360 := Nat.le_trans (Keep.refl h0 []).1 (own_eqle g360)
      have K360 := (Keep.refl h0 []).ext E360
      have O360 := O0.ext E360
      have F360_coder : Fld Z h360 b360 "java/lang/String" "coder" "B" (.int 0) := D360 (Or.inr (W hw 27 rfl)) (ty := .byte) (by decide)
      have F360_value : Fld Z h360 b360 "java/lang/String" "value" "[B" .null := D360 (Or.inr (W hw 29 rfl)) (ty := (.array .byte)) (by decide)
      obtain ⟨T361, h361, k361, X361, e361, E361, A361, B361, st361⟩ := newPE X360 hx hZ (W hw 3 rfl) e360 (g := (mkF m 162 #[vi p1, vi p2, vi p3, vi p4, vi ca, vi cb, vi co, vi 2, vi 0, .unset, .unset, .unset, .unset, .unset, .unset, .unset, .unset, .unset] [(.int 2), (.ref b360), (.ref b360)])) rfl (hb hby at_162) rfl (by decide) (cap := 2) (by decide) (by decide) (by decide) (by decide) (ad := "[C") (by decide)
      obtain ⟨b361, g361⟩ : ∃ z, z = h360.size := ⟨_, rfl⟩
      rw [← g361] at A361 B361 st361
      have ne362 := (own_ltn A360.lt (own_eqle g361))
      have g_b361 := own_born O360 (own_eqle g361)
      have sz_b361 := Nat.le_trans K360.1 (own_eqle g361)
      have K361 := K360.ext E361
      have O361 := O360.ext E361
      have V361 : Arv Z h361 b361 k361 .char (2 : Int32) [] (.int 0) := Arv.new A361 (by decide)
      have V363 : Arv Z h361 b361 k361 .char (2 : Int32) [(.int 0)] (.int 0) := V361.pad (pad_rep [] (.int 0) 1)
      obtain ⟨cl364, Ar364, q364, S364, M364, Hs364, G364⟩ := id V363
      have hin364 : ¬ ((0 : Int32) < 0 ∨ cl364.slots.size ≤ ((0 : Int32)).toNatClampNeg) := inb_of S364 ⟨by decide, by decide⟩
      obtain ⟨T365, h365, X365, e365, W365, st365⟩ := stC X361 hx hZ e361 Ar364 (j := (0 : Int32)) hin364 (g := (mkF m 168 #[vi p1, vi p2, vi p3, vi p4, vi ca, vi cb, vi co, vi 2, vi 0, .unset, .unset, .unset, .unset, .unset, .unset, .unset, .unset, .unset] [(.int 45), (.int 0), (.ref b361), (.ref b361), (.ref b360), (.ref b360)])) rfl rfl (hb hby at_168)
      have K365 := K361.wr W365 (Or.inr sz_b361)
      have O365 := O361.wr W365 g_b361
      have N365 := Fr.snoc X365 N0 g_b361
      have Vw365 : Arv Z h365 b361 k361 .char (2 : Int32) [(.int (nar .char (45 : Int32)))] (.int 0) := Arv.set Ar364 q364 S364 M364 Hs364 G364 (fits_nar_char _) W365 0 rfl (Nat.le_of_ble_eq_true rfl)
      have V366 : Arv Z h365 b361 k361 .char (2 : Int32) [(.int (nar .char (45 : Int32))), (.int 0)] (.int 0) := Vw365.pad (pad_rep [(.int (nar .char (45 : Int32)))] (.int 0) 1)
      obtain ⟨cl367, Ar367, q367, S367, M367, Hs367, G367⟩ := id V366
      have hin367 : ¬ ((1 : Int32) < 0 ∨ cl367.slots.size ≤ ((1 : Int32)).toNatClampNeg) := inb_of S367 ⟨by decide, by decide⟩
      obtain ⟨T368, h368, X368, e368, W368, st368⟩ := stC X365 hx hZ e365 Ar367 (j := (1 : Int32)) hin367 (g := (mkF m 173 #[vi p1, vi p2, vi p3, vi p4, vi ca, vi cb, vi co, vi 2, vi 0, .unset, .unset, .unset, .unset, .unset, .unset, .unset, .unset, .unset] [(.int 45), (.int 1), (.ref b361), (.ref b361), (.ref b360), (.ref b360)])) rfl rfl (hb hby at_173)
      have K368 := K365.wr W368 (Or.inr sz_b361)
      have O368 := O365.wr W368 g_b361
      have N368 := Fr.snoc X368 N365 g_b361
      have Vw368 : Arv Z h368 b361 k361 .char (2 : Int32) [(.int (nar .char (45 : Int32))), (.int (nar .char (45 : Int32)))] (.int 0) := Arv.set Ar367 q367 S367 M367 Hs367 G367 (fits_nar_char _) W368 1 rfl (Nat.le_of_ble_eq_true rfl)
      have f369 := (((A360.ext E361).wr W365).wr W368)
      have f370 := (((F360_coder.ext E361).other W365 (Or.inl ne362)).other W368 (Or.inl ne362))
      have f371 := (((F360_value.ext E361).other W365 (Or.inl ne362)).other W368 (Or.inl ne362))
      obtain ⟨_, T372, L372, X372, hQ372, st372⟩ := cI X368 hx hZ hown (W hw 4 rfl) (W hw 5 rfl) (W hw 6 rfl) (W hw 2 rfl) rfl (by decide) (rm1 l Z a0 hw [] b360 b361 k361 (nar .char (45 : Int32)) (nar .char (45 : Int32)) cs5 h368 n0 O368 Vw368 S_cs hcs (by decide) (by decide) f369 f370 g_b360 f371) e368 #[vi p1, vi p2, vi p3, vi p4, vi ca, vi cb, vi co, vi 2, vi 0, .unset, .unset, .unset, .unset, .unset, .unset, .unset, .unset, .unset] [(.ref b360)] (by rw [hml]; rfl) (hb hby at_174) pd_6 rfl (W := 1) (Nat.le_of_eq rfl) (by decide) (by decide) (by decide) (by decide)
      obtain ⟨b373, k374, rfl, Nq372, K372, sq372_b373, P372_0, P372_1, P372_2, P372_3, P372_4⟩ := hQ372
      have N372 := Fr.app N368 Nq372
      have KK372 := Keep.trans (h := h368) K368 K372 (allS (Or.inr sz_b360) all0)
      have O372 := O368.keep K372 (allS g_b360 all0)
      obtain ⟨T378, Lc378, X378, Nq378, hQ378⟩ := sg0_189_213 hw p1 p2 p3 p4 ca cb co (2 : Int32) (0 : Int32) b360 cs5 w6 k7 T372.heap n0 O372 S_cs hcs h1_co S_D V_D P372_0 X372 hx hZ hby hml hown rfl N372 (by decide) (by decide) (by decide) (by decide)
      obtain ⟨b379, b380, b381, b382, k383, k384, K378, sq378_b379, sq378_b380, sq378_b381, sq378_b382, P378_0, P378_1, P378_2, P378_3, P378_4, P378_5, P378_6, P378_7, P378_8, P378_9, P378_10, P378_11, P378_12, P378_13, P378_14, P378_15, P378_16, P378_17, st378⟩ := hQ378
      have KK378 := Keep.trans (h := T372.heap) KK372 K378 all0
      have O378 := O372.keep K378 all0
      obtain ⟨T398, Lc398, X398, Nq398, hQ398⟩ := sg0_226_237 hw p1 p2 p3 p4 ca cb co (2 : Int32) (0 : Int32) b360 b379 b380 T378.heap n0 O378  X378 hx hZ hby hml hown rfl Nq378 (by decide) (by decide) (by decide) (by decide)
      obtain ⟨b399, K398, sq398_b399, P398_0, P398_1, P398_2, P398_3, P398_4, st398⟩ := hQ398
      have f400 := (P372_0.keep K378)
      have ne407 := (own_ltn P378_9.lt sq398_b399)
      have g_b399 := own_born O378 sq398_b399
      have KK398 := Keep.trans (h := T378.heap) KK378 K398 all0
      have O398 := O378.keep K398 all0
      have f410 := (P378_9.keep K398)
      have f411 := (P378_11.keep K398 nin0)
      have f412 := (P378_10.keep K398 nin0)
      have f413 := (P378_17.keep K398 nin0)
      have f414 := (f400.keep K398)
      have f415 := ((P372_1.keep K378 nin0).keep K398 nin0)
      have f416 := ((P372_2.keep K378 nin0).keep K398 nin0)
      have f417 := ((P372_4.keep K378 nin0).keep K398 nin0)
      obtain ⟨cq418, kq418, q418a, q418b, q418c⟩ := isOf hZ rfl P398_0
      obtain ⟨_, _, ⟨T418, L418, k418, n418⟩, -, X418, h2418, hg418, ⟨Lc418, hQ418, l418, y418, z418⟩, st418⟩ := X398.virtualBackS hx (y := (⟨"com/example/runqueue/runqueue/Arguments", "nextOption", "()Ljava/lang/String;"⟩ : MethodName)) (z := (⟨"com/example/runqueue/runqueue/Arguments", "nextOption", "()Ljava/lang/String;"⟩ : MethodName)) hown (mvT hZ (W hw 108 rfl)) (mvT hZ (W hw 109 rfl)) (notFace_of_selects (args := #[]) (mvT hZ (W hw 111 rfl))) (mvT hZ (W hw 111 rfl)) (mvT hZ (W hw 110 rfl)) (by decide) (own_backOfSH (s := s) (vm0 := s.vm) (W := 0) (rm20 l Z a0 hw [] b399 b380 b382 k384 b360 cs5 b373 k374 (nar .byte ((nar .char (45 : Int32)).toInt8.toInt32)) (nar .byte ((nar .char (45 : Int32)).toInt8.toInt32)) T398.heap n0 O398 P398_2 P398_1 f410 f411 f412 f413 f414 g_b360 S_cs hcs f415 f416 f417 (by decide) (by decide) P398_0 g_b399 P398_3 P398_4) hZ (W hw 112 rfl) (W hw 101 rfl) (by decide) (by decide) (own_EW hw) (own_CH.keep KK398 hCH)) q418a q418c (g := (mkF m 239 #[vi p1, vi p2, vi p3, vi p4, vi ca, vi cb, vi co, vi 2, vi 0, vr b360, vr b379, vr b380, vr b399, .unset, .unset, .unset, .unset, .unset] [(.ref b399)])) rfl (by rw [hml]; rfl) (Steps.refl _) (argsL := []) (rest := []) (lenOf pd_29 rfl) rfl (by show 2 * 0 + _ ≤ _; exact Nat.le_of_eq rfl) (hb hby at_239) (fun _ _ => ⟨rfl, rfl, (by decide : 8 + 2 ≤ _), (by decide : 30 + 12 ≤ _)⟩)
      dsimp only [Pt.U, Pt.locs, Pt.cells, Pt.slots] at X418 l418 y418 z418 st418 hQ418 h2418 hg418
      subst l418 y418 z418
      obtain ⟨X418, hS418, hZ418, hown418⟩ := rebS (s := s) (vm0 := s.vm) hS0 (show _ ≤ T398.heap.size from (Nat.le_trans (Nat.le_trans (Nat.le_trans (Nat.le_trans (Nat.le_trans (Nat.le_trans (Nat.le_trans (Nat.zero_le _) E360.1) E361.1) (Keep.of_wr W365).1) (Keep.of_wr W368).1) K372.1) K378.1) K398.1)) X418 h2418 hg418 hZ hown
      obtain ⟨rfl, Nq418, K418, P418_0, P418_1, P418_2, P418_3, P418_4⟩ := hQ418
      have N418 := Fr.app Nq398 Nq418
      have O418 := O398.keep K418 (allS g_b399 all0)
      obtain ⟨_, T419, L419, X419, hQ419, st419⟩ := cV X418 hx hZ418 hown418 (W hw 214 rfl) (W hw 215 rfl) (notFace_of_selects (args := #[]) (mvT hZ418 (W hw 217 rfl))) (W hw 217 rfl) (W hw 216 rfl) (W hw 218 rfl) (W hw 101 rfl) (by decide) (rm40 l Z a0 hw [] b399 T418.heap n0 O418 P418_4) rfl P418_2 #[vi p1, vi p2, vi p3, vi p4, vi ca, vi cb, vi co, vi 2, vi 0, vr b360, vr b379, vr b380, vr b399, .unset, .unset, .unset, .unset, .unset] [] (by rw [hml]; rfl) (hb hby at_245) pd_30 rfl (W := 0) (Nat.le_of_eq rfl) (by decide) (by decide) (by decide) (by decide)
      obtain ⟨rfl, Nq419, e419⟩ := hQ419
      have N419 := Fr.app N418 Nq419
      obtain ⟨_, T420, L420, X420, hQ420, st420⟩ := cV X419 hx hZ418 hown418 (W hw 214 rfl) (W hw 215 rfl) (notFace_of_selects (args := #[]) (mvT hZ418 (W hw 217 rfl))) (W hw 217 rfl) (W hw 216 rfl) (W hw 218 rfl) (W hw 101 rfl) (by decide) (rm40 l Z a0 hw [] b399 T418.heap n0 O418 P418_4) e419 P418_2 #[vi p1, vi p2, vi p3, vi p4, vi ca, vi cb, vi co, vi 2, vi 0, vr b360, vr b379, vr b380, vr b399, vi 1, .unset, .unset, .unset, .unset] [] (by rw [hml]; rfl) (hb hby at_252) pd_30 rfl (W := 0) (Nat.le_of_eq rfl) (by decide) (by decide) (by decide) (by decide)
      obtain ⟨rfl, Nq420, e420⟩ := hQ420
      have N420 := Fr.app N419 Nq420
      obtain ⟨b421, T421, h421, k421, X421, e421, E421, hS421, hk421, hZ421, hown421, st421⟩ := ldcS (s := s) (vm0 := T418.vm) X420 hx hZ418 hown418 (W hw 219 rfl) (own_wS hw) e420 hS418 (Nat.le_refl _) (g := (mkF m 259 #[vi p1, vi p2, vi p3, vi p4, vi ca, vi cb, vi co, vi 2, vi 0, vr b360, vr b379, vr b380, vr b399, vi 1, vi 1, .unset, .unset, .unset] [(.ref b399)])) rfl (hb hby at_259) (n := 4) (by decide) (by decide) (by decide) (by decide)
      have O421 := O418.ext E421
      have f422 := (P418_1.ext E421)
      have f423 := ((f410.keep K418).ext E421)
      have f424 := ((f411.keep K418 (ninS ne407 nin0)).ext E421)
      have f425 := (P418_0.ext E421)
      have f427 := (P418_2.ext E421)
      obtain ⟨_, T426, L426, X426, hQ426, st426⟩ := cV X421 hx hZ421 hown421 (W hw 220 rfl) (W hw 221 rfl) (notFace_of_selects (args := #[]) (mvT hZ421 (W hw 223 rfl))) (W hw 223 rfl) (W hw 222 rfl) (W hw 224 rfl) (W hw 101 rfl) (by decide) (rm41 l Z a0 hw [] b399 b421 b380 h421 n0 O421 f422 f423 f424 f425) e421 f427 #[vi p1, vi p2, vi p3, vi p4, vi ca, vi cb, vi co, vi 2, vi 0, vr b360, vr b379, vr b380, vr b399, vi 1, vi 1, .unset, .unset, .unset] [] (by rw [hml]; rfl) (hb hby at_261) pd_31 rfl (W := 0) (Nat.le_of_eq rfl) (by decide) (by decide) (by decide) (by decide)
      obtain ⟨rfl, Nq426, e426⟩ := hQ426
      have N426 := Fr.app N420 Nq426
      obtain ⟨fs, hr, hrun, hended, hREW⟩ := X426.leaveW (s := s) hS421 (by rw [e426]; exact hk421) (v := some (.int 1)) (fun h => by rw [Bd.returns] at h; cases h)
      refine ⟨_, _, pre359 _ ?_, hrun, hended, _, _, rfl, ?_, hREW.1, hREW.2.1, hREW.2.2.1, hREW.2.2.2.mono (by decide) (by decide)⟩
      · show Steps p.tables e below (s₁.setTop (mkF m 29 #[vi p1, vi p2, vi p3, vi p4, vi ca, vi cb, vi co, vi 2, .unset, .unset, .unset, .unset, .unset, .unset, .unset, .unset, .unset, .unset] [])) _
        refine XS.iloadN X0.here hx rfl (hb hby at_29) rfl ?_
        refine XS.iconst X0.here hx rfl (hb hby at_30) ?_
        refine XS.iand X0.here hx rfl (hb hby at_31) rfl ?_
        refine XS.ifYes X0.here hx rfl (pc0 := 32) (pc' := 45) rfl (hb hby at_32) rfl ((if0 _ _).trans (teq (h4 : (p4 &&& (4 : Int32)) = (0 : Int32))).1) (by decide) (by decide) ?_
        refine XS.iconst X0.here hx rfl (hb hby at_45) ?_
        refine XS.istore X0.here hx rfl (hb hby at_46) rfl (l' := #[vi p1, vi p2, vi p3, vi p4, vi ca, vi cb, vi co, vi 2, vi 0, .unset, .unset, .unset, .unset, .unset, .unset, .unset, .unset, .unset]) rfl ?_
        refine XS.iload X0.here hx rfl (hb hby at_48) rfl ?_
        refine XS.ifYes X0.here hx rfl (pc0 := 50) (pc' := 78) rfl (hb hby at_50) rfl ((if0 _ _).trans (feq ((by decide) : ¬ ((2 : Int32) = (0 : Int32)))).2) (by decide) (by decide) ?_
        refine XS.iload X0.here hx rfl (hb hby at_78) rfl ?_
        refine XS.iconst X0.here hx rfl (hb hby at_80) ?_
        show Steps p.tables e below (s₁.setTop (mkF m 81 #[vi p1, vi p2, vi p3, vi p4, vi ca, vi cb, vi co, vi 2, vi 0, .unset, .unset, .unset, .unset, .unset, .unset, .unset, .unset, .unset] [(.int 1), (.int 2)])) _
        refine XS.icmpYes X0.here hx rfl (pc0 := 81) (pc' := 151) rfl (hb hby at_81) rfl (feq ((by decide) : ¬ ((2 : Int32) = (1 : Int32)))).2 (by decide) (by decide) ?_
        refine XS.iload X0.here hx rfl (hb hby at_151) rfl ?_
        refine XS.iconst X0.here hx rfl (hb hby at_153) ?_
        refine XS.icmpNo X0.here hx rfl (hb hby at_154) rfl (teq ((by decide) : (2 : Int32) = (2 : Int32))).2 ?_
        refine st360 _ ?_
        refine XS.dup X360.here hx rfl (hb hby at_160) rfl rfl ?_
        refine XS.iconst X360.here hx rfl (hb hby at_161) ?_
        refine st361 _ ?_
        refine XS.dup X361.here hx rfl (hb hby at_164) rfl rfl ?_
        refine XS.iconst X361.here hx rfl (hb hby at_165) ?_
        show Steps p.tables e below (T361.setTop (mkF m 166 #[vi p1, vi p2, vi p3, vi p4, vi ca, vi cb, vi co, vi 2, vi 0, .unset, .unset, .unset, .unset, .unset, .unset, .unset, .unset, .unset] [(.int 0), (.ref b361), (.ref b361), (.ref b360), (.ref b360)])) _
        refine XS.bipush X361.here hx rfl (hb hby at_166) ?_
        refine st365 _ ?_
        refine XS.dup X365.here hx rfl (hb hby at_169) rfl rfl ?_
        refine XS.iconst X365.here hx rfl (hb hby at_170) ?_
        refine XS.bipush X365.here hx rfl (hb hby at_171) ?_
        refine st368 _ ?_
        refine st372 _ ?_
        refine XS.astore X372.here hx rfl (hb hby at_177) rfl rfl (l' := #[vi p1, vi p2, vi p3, vi p4, vi ca, vi cb, vi co, vi 2, vi 0, vr b360, .unset, .unset, .unset, .unset, .unset, .unset, .unset, .unset]) rfl ?_
        refine XS.goto X372.here hx rfl (pc0 := 179) (pc' := 189) rfl (hb hby at_179) (by decide) (by decide) ?_
        refine st378 _ ?_
        show Steps p.tables e below (T378.setTop (mkF m 213 #[vi p1, vi p2, vi p3, vi p4, vi ca, vi cb, vi co, vi 2, vi 0, vr b360, vr b379, vr b380, .unset, .unset, .unset, .unset, .unset, .unset] [])) _
        refine XS.iload X378.here hx rfl (hb hby at_213) rfl ?_
        refine XS.ifYes X378.here hx rfl (pc0 := 215) (pc' := 226) rfl (hb hby at_215) rfl ((if0 _ _).trans (teq ((by decide) : (0 : Int32) = (0 : Int32))).1) (by decide) (by decide) ?_
        refine st398 _ ?_
        refine XS.aload X398.here hx rfl (hb hby at_237) rfl rfl ?_
        refine st418.trans ?_
        refine XS.pop X418.here hx rfl (hb hby at_242) rfl rfl ?_
        refine XS.aload X418.here hx rfl (hb hby at_243) rfl rfl ?_
        refine st419 _ ?_
        refine XS.istore X419.here hx rfl (hb hby at_248) rfl (l' := #[vi p1, vi p2, vi p3, vi p4, vi ca, vi cb, vi co, vi 2, vi 0, vr b360, vr b379, vr b380, vr b399, vi 1, .unset, .unset, .unset, .unset]) rfl ?_
        refine XS.aload X419.here hx rfl (hb hby at_250) rfl rfl ?_
        show Steps p.tables e below (T419.setTop (mkF m 252 #[vi p1, vi p2, vi p3, vi p4, vi ca, vi cb, vi co, vi 2, vi 0, vr b360, vr b379, vr b380, vr b399, vi 1, .unset, .unset, .unset, .unset] [(.ref b399)])) _
        refine st420 _ ?_
        refine XS.istore X420.here hx rfl (hb hby at_255) rfl (l' := #[vi p1, vi p2, vi p3, vi p4, vi ca, vi cb, vi co, vi 2, vi 0, vr b360, vr b379, vr b380, vr b399, vi 1, vi 1, .unset, .unset, .unset]) rfl ?_
        refine XS.aload X420.here hx rfl (hb hby at_257) rfl rfl ?_
        refine st421 _ ?_
        refine st426 _ ?_
        refine XS.astore X426.here hx rfl (hb hby at_264) rfl rfl (l' := #[vi p1, vi p2, vi p3, vi p4, vi ca, vi cb, vi co, vi 2, vi 0, vr b360, vr b379, vr b380, vr b399, vi 1, vi 1, .val .null, .unset, .unset]) rfl ?_
        refine XS.iload X426.here hx rfl (hb hby at_266) rfl ?_
        refine XS.iconst X426.here hx rfl (hb hby at_268) ?_
        refine XS.icmpYes X426.here hx rfl (pc0 := 269) (pc' := 279) rfl (hb hby at_269) rfl (feq ((by decide) : ¬ ((2 : Int32) = (3 : Int32)))).2 (by decide) (by decide) ?_
        refine XS.iload X426.here hx rfl (hb hby at_279) rfl ?_
        show Steps p.tables e below (T426.setTop (mkF m 281 #[vi p1, vi p2, vi p3, vi p4, vi ca, vi cb, vi co, vi 2, vi 0, vr b360, vr b379, vr b380, vr b399, vi 1, vi 1, .val .null, .unset, .unset] [(.int 0)])) _
        refine XS.ifYes X426.here hx rfl (pc0 := 281) (pc' := 291) rfl (hb hby at_281) rfl ((if0 _ _).trans (teq ((by decide) : (0 : Int32) = (0 : Int32))).1) (by decide) (by decide) ?_
        refine XS.aconstNull X426.here hx rfl (hb hby at_291) ?_
        refine XS.astore X426.here hx rfl (hb hby at_292) rfl rfl (l' := #[vi p1, vi p2, vi p3, vi p4, vi ca, vi cb, vi co, vi 2, vi 0, vr b360, vr b379, vr b380, vr b399, vi 1, vi 1, .val .null, .val .null, .unset]) rfl ?_
        refine XS.aload X426.here hx rfl (hb hby at_294) rfl rfl ?_
        refine XS.ifnonnullNo X426.here hx rfl (hb hby at_296) rfl ?_
        refine XS.aload X426.here hx rfl (hb hby at_299) rfl rfl ?_
        refine XS.ifnonnullNo X426.here hx rfl (hb hby at_301) rfl ?_
        refine XS.iconst X426.here hx rfl (hb hby at_304) ?_
        refine XS.goto X426.here hx rfl (pc0 := 305) (pc' := 319) rfl (hb hby at_305) (by decide) (by decide) ?_
        refine XS.istore X426.here hx rfl (hb hby at_319) rfl (l' := #[vi p1, vi p2, vi p3, vi p4, vi ca, vi cb, vi co, vi 2, vi 0, vr b360, vr b379, vr b380, vr b399, vi 1, vi 1, .val .null, .val .null, vi 1]) rfl ?_
        show Steps p.tables e below (T426.setTop (mkF m 321 #[vi p1, vi p2, vi p3, vi p4, vi ca, vi cb, vi co, vi 2, vi 0, vr b360, vr b379, vr b380, vr b399, vi 1, vi 1, .val .null, .val .null, vi 1] [])) _
        refine XS.iload X426.here hx rfl (hb hby at_321) rfl ?_
        refine XS.ifNo X426.here hx rfl (hb hby at_323) rfl ((if0 _ _).trans (feq ((by decide) : ¬ ((1 : Int32) = (0 : Int32)))).1) ?_
        refine XS.iload X426.here hx rfl (hb hby at_326) rfl ?_
        refine XS.ifNo X426.here hx rfl (hb hby at_328) rfl ((if0 _ _).trans (feq ((by decide) : ¬ ((1 : Int32) = (0 : Int32)))).1) ?_
        refine XS.iload X426.here hx rfl (hb hby at_331) rfl ?_
        refine XS.ifNo X426.here hx rfl (hb hby at_333) rfl ((if0 _ _).trans (feq ((by decide) : ¬ ((1 : Int32) = (0 : Int32)))).1) ?_
        refine XS.iconst X426.here hx rfl (hb hby at_336) ?_
        refine XS.goto X426.here hx rfl (pc0 := 337) (pc' := 341) rfl (hb hby at_337) (by decide) (by decide) ?_
        exact retN X426 hx (t := .boolean) Bd.returns (by simp) (hb hby at_341) hr
      · show Qrm0 Z p1 p2 p3 p4 cs5 w6 k7 h0 n0 _ T426.heap _
        exact ⟨rfl, N426⟩
    · obtain ⟨T428, h428, X428, e428, E428, A428, D428, U428, st428⟩ := newO X0 hx hZ hown (W hw 0 rfl) (W hw 1 rfl) (W hw 2 rfl) e0 (g := (mkF m 157 #[vi p1, vi p2, vi p3, vi p4, vi ca, vi cb, vi co, vi 2, vi 1, .unset, .unset, .unset, .unset, .unset, .unset, .unset, .unset, .unset] [])) rfl (hb hby at_157) (by decide) (by decide)
      obtain ⟨b428, g428⟩ : ∃ z, z = h0.size := ⟨_, rfl⟩
      rw [← g428] at A428 D428 U428 st428
      have g_b428 := own_born O0 (own_eqle g428)
      have sz_b428 := Nat.le_trans (Keep.refl h0 []).1 (own_eqle g428)
      have K428 := (Keep.refl h0 []).ext E428
      have O428 := O0.ext E428
      have F428_coder : Fld Z h428 b428 "java/lang/String" "coder" "B" (.int 0) := D428 (Or.inr (W hw 27 rfl)) (ty := .byte) (by decide)
      have F428_value : Fld Z h428 b428 "java/lang/String" "value" "[B" .null := D428 (Or.inr (W hw 29 rfl)) (ty := (.array .byte)) (by decide)
      obtain ⟨T429, h429, k429, X429, e429, E429, A429, B429, st429⟩ := newPE X428 hx hZ (W hw 3 rfl) e428 (g := (mkF m 162 #[vi p1, vi p2, vi p3, vi p4, vi ca, vi cb, vi co, vi 2, vi 1, .unset, .unset, .unset, .unset, .unset, .unset, .unset, .unset, .unset] [(.int 2), (.ref b428), (.ref b428)])) rfl (hb hby at_162) rfl (by decide) (cap := 2) (by decide) (by decide) (by decide) (by decide) (ad := "[C") (by decide)
      obtain ⟨b429, g429⟩ : ∃ z, z = h428.size := ⟨_, rfl⟩
      rw [← g429] at A429 B429 st429
      have ne430 := (own_ltn A428.lt (own_eqle g429))
      have g_b429 := own_born O428 (own_eqle g429)
      have sz_b429 := Nat.le_trans K428.1 (own_eqle g429)
      have K429 := K428.ext E429
      have O429 := O428.ext E429
      have V429 : Arv Z h429 b429 k429 .char (2 : Int32) [] (.int 0) := Arv.new A429 (by decide)
      have V431 : Arv Z h429 b429 k429 .char (2 : Int32) [(.int 0)] (.int 0) := V429.pad (pad_rep [] (.int 0) 1)
      obtain ⟨cl432, Ar432, q432, S432, M432, Hs432, G432⟩ := id V431
      have hin432 : ¬ ((0 : Int32) < 0 ∨ cl432.slots.size ≤ ((0 : Int32)).toNatClampNeg) := inb_of S432 ⟨by decide, by decide⟩
      obtain ⟨T433, h433, X433, e433, W433, st433⟩ := stC X429 hx hZ e429 Ar432 (j := (0 : Int32)) hin432 (g := (mkF m 168 #[vi p1, vi p2, vi p3, vi p4, vi ca, vi cb, vi co, vi 2, vi 1, .unset, .unset, .unset, .unset, .unset, .unset, .unset, .unset, .unset] [(.int 45), (.int 0), (.ref b429), (.ref b429), (.ref b428), (.ref b428)])) rfl rfl (hb hby at_168)
      have K433 := K429.wr W433 (Or.inr sz_b429)
      have O433 := O429.wr W433 g_b429
      have N433 := Fr.snoc X433 N0 g_b429
      have Vw433 : Arv Z h433 b429 k429 .char (2 : Int32) [(.int (nar .char (45 : Int32)))] (.int 0) := Arv.set Ar432 q432 S432 M432 Hs432 G432 (fits_nar_char _) W433 0 rfl (Nat.le_of_ble_eq_true rfl)
      have V434 : Arv Z h433 b429 k429 .char (2 : Int32) [(.int (nar .char (45 : Int32))), (.int 0)] (.int 0) := Vw433.pad (pad_rep [(.int (nar .char (45 : Int32)))] (.int 0) 1)
      obtain ⟨cl435, Ar435, q435, S435, M435, Hs435, G435⟩ := id V434
      have hin435 : ¬ ((1 : Int32) < 0 ∨ cl435.slots.size ≤ ((1 : Int32)).toNatClampNeg) := inb_of S435 ⟨by decide, by decide⟩
      obtain ⟨T436, h436, X436, e436, W436, st436⟩ := stC X433 hx hZ e433 Ar435 (j := (1 : Int32)) hin435 (g := (mkF m 173 #[vi p1, vi p2, vi p3, vi p4, vi ca, vi cb, vi co, vi 2, vi 1, .unset, .unset, .unset, .unset, .unset, .unset, .unset, .unset, .unset] [(.int 45), (.int 1), (.ref b429), (.ref b429), (.ref b428), (.ref b428)])) rfl rfl (hb hby at_173)
      have K436 := K433.wr W436 (Or.inr sz_b429)
      have O436 := O433.wr W436 g_b429
      have N436 := Fr.snoc X436 N433 g_b429
      have Vw436 : Arv Z h436 b429 k429 .char (2 : Int32) [(.int (nar .char (45 : Int32))), (.int (nar .char (45 : Int32)))] (.int 0) := Arv.set Ar435 q435 S435 M435 Hs435 G435 (fits_nar_char _) W436 1 rfl (Nat.le_of_ble_eq_true rfl)
      have f437 := (((A428.ext E429).wr W433).wr W436)
      have f438 := (((F428_coder.ext E429).other W433 (Or.inl ne430)).other W436 (Or.inl ne430))
      have f439 := (((F428_value.ext E429).other W433 (Or.inl ne430)).other W436 (Or.inl ne430))
      obtain ⟨_, T440, L440, X440, hQ440, st440⟩ := cI X436 hx hZ hown (W hw 4 rfl) (W hw 5 rfl) (W hw 6 rfl) (W hw 2 rfl) rfl (by decide) (rm1 l Z a0 hw [] b428 b429 k429 (nar .char (45 : Int32)) (nar .char (45 : Int32)) cs5 h436 n0 O436 Vw436 S_cs hcs (by decide) (by decide) f437 f438 g_b428 f439) e436 #[vi p1, vi p2, vi p3, vi p4, vi ca, vi cb, vi co, vi 2, vi 1, .unset, .unset, .unset, .unset, .unset, .unset, .unset, .unset, .unset] [(.ref b428)] (by rw [hml]; rfl) (hb hby at_174) pd_6 rfl (W := 1) (Nat.le_of_eq rfl) (by decide) (by decide) (by decide) (by decide)
      obtain ⟨b441, k442, rfl, Nq440, K440, sq440_b441, P440_0, P440_1, P440_2, P440_3, P440_4⟩ := hQ440
      have N440 := Fr.app N436 Nq440
      have KK440 := Keep.trans (h := h436) K436 K440 (allS (Or.inr sz_b428) all0)
      have O440 := O436.keep K440 (allS g_b428 all0)
      obtain ⟨T446, Lc446, X446, Nq446, hQ446⟩ := sg0_189_213 hw p1 p2 p3 p4 ca cb co (2 : Int32) (1 : Int32) b428 cs5 w6 k7 T440.heap n0 O440 S_cs hcs h1_co S_D V_D P440_0 X440 hx hZ hby hml hown rfl N440 (by decide) (by decide) (by decide) (by decide)
      obtain ⟨b447, b448, b449, b450, k451, k452, K446, sq446_b447, sq446_b448, sq446_b449, sq446_b450, P446_0, P446_1, P446_2, P446_3, P446_4, P446_5, P446_6, P446_7, P446_8, P446_9, P446_10, P446_11, P446_12, P446_13, P446_14, P446_15, P446_16, P446_17, st446⟩ := hQ446
      have ne457 := (own_ltn P440_0.lt sq446_b448)
      have ne459 := (own_ltn P440_3.lt sq446_b448)
      have g_b448 := own_born O440 sq446_b448
      have sz_b448 := Nat.le_trans KK440.1 sq446_b448
      have ne463 := (own_ltn P440_0.lt sq446_b450)
      have ne465 := (own_ltn P440_3.lt sq446_b450)
      have g_b450 := own_born O440 sq446_b450
      have sz_b450 := Nat.le_trans KK440.1 sq446_b450
      have KK446 := Keep.trans (h := T440.heap) KK440 K446 all0
      have O446 := O440.keep K446 all0
      obtain ⟨T466, Lc466, X466, Nq466, hQ466⟩ := sg0_218_226 hw p1 p2 p3 p4 ca cb co (2 : Int32) (1 : Int32) b428 b447 b448 b450 k452 T446.heap n0 O446 P446_9 P446_12 g_b448 P446_10 P446_11 P446_17 g_b450 P446_6 P446_16 P446_15 P446_4 X446 hx hZ hby hml hown rfl Nq446 (by decide) (by decide) (by decide) (by decide)
      obtain ⟨K466, P466_0, P466_1, P466_2, P466_3, P466_4, P466_5, st466⟩ := hQ466
      have KK466 := Keep.trans (h := T446.heap) KK446 K466 (allS (Or.inr sz_b448) (allS (Or.inr sz_b450) all0))
      have O466 := O446.keep K466 (allS g_b448 (allS g_b450 all0))
      obtain ⟨T467, Lc467, X467, Nq467, hQ467⟩ := sg0_226_237 hw p1 p2 p3 p4 ca cb co (2 : Int32) (1 : Int32) b428 b447 b448 T466.heap n0 O466  X466 hx hZ hby hml hown rfl Nq466 (by decide) (by decide) (by decide) (by decide)
      obtain ⟨b468, K467, sq467_b468, P467_0, P467_1, P467_2, P467_3, P467_4, st467⟩ := hQ467
      have f469 := ((P440_0.keep K446).keep K466)
      have f475 := (P446_6.keep K466)
      have ne477 := (own_ltn P466_0.lt sq467_b468)
      have ne480 := (own_ltn P466_4.lt sq467_b468)
      have g_b468 := own_born O466 sq467_b468
      have KK467 := Keep.trans (h := T466.heap) KK466 K467 all0
      have O467 := O466.keep K467 all0
      have f481 := (P466_0.keep K467)
      have f482 := (P466_1.keep K467 nin0)
      have f483 := (P466_3.keep K467 nin0)
      have f484 := (P466_5.keep K467 nin0)
      have f485 := (f469.keep K467)
      have f486 := (((P440_1.keep K446 nin0).keep K466 (ninS ne457 (ninS ne463 nin0))).keep K467 nin0)
      have f487 := (((P440_2.keep K446 nin0).keep K466 (ninS ne457 (ninS ne463 nin0))).keep K467 nin0)
      have f488 := (((P440_4.keep K446 nin0).keep K466 (ninS ne459 (ninS ne465 nin0))).keep K467 nin0)
      obtain ⟨cq489, kq489, q489a, q489b, q489c⟩ := isOf hZ rfl P467_0
      obtain ⟨_, _, ⟨T489, L489, k489, n489⟩, -, X489, h2489, hg489, ⟨Lc489, hQ489, l489, y489, z489⟩, st489⟩ := X467.virtualBackS hx (y := (⟨"com/example/runqueue/runqueue/Arguments", "nextOption", "()Ljava/lang/String;"⟩ : MethodName)) (z := (⟨"com/example/runqueue/runqueue/Arguments", "nextOption", "()Ljava/lang/String;"⟩ : MethodName)) hown (mvT hZ (W hw 108 rfl)) (mvT hZ (W hw 109 rfl)) (notFace_of_selects (args := #[]) (mvT hZ (W hw 111 rfl))) (mvT hZ (W hw 111 rfl)) (mvT hZ (W hw 110 rfl)) (by decide) (own_backOfSH (s := s) (vm0 := s.vm) (W := 0) (rm20_2 l Z a0 hw [] b468 b448 b450 k452 b428 b447 cs5 b441 k442 (nar .byte ((nar .char (45 : Int32)).toInt8.toInt32)) (nar .byte ((nar .char (45 : Int32)).toInt8.toInt32)) T467.heap n0 O467 P467_2 P467_1 f481 f482 f483 f484 f485 g_b428 S_cs hcs f486 f487 f488 (by decide) (by decide) P467_0 g_b468 P467_3 P467_4) hZ (W hw 112 rfl) (W hw 101 rfl) (by decide) (by decide) (own_EW hw) (own_CH.keep KK467 hCH)) q489a q489c (g := (mkF m 239 #[vi p1, vi p2, vi p3, vi p4, vi ca, vi cb, vi co, vi 2, vi 1, vr b428, vr b447, vr b448, vr b468, .unset, .unset, .unset, .unset, .unset] [(.ref b468)])) rfl (by rw [hml]; rfl) (Steps.refl _) (argsL := []) (rest := []) (lenOf pd_29 rfl) rfl (by show 2 * 0 + _ ≤ _; exact Nat.le_of_eq rfl) (hb hby at_239) (fun _ _ => ⟨rfl, rfl, (by decide : 8 + 2 ≤ _), (by decide : 30 + 12 ≤ _)⟩)
      dsimp only [Pt.U, Pt.locs, Pt.cells, Pt.slots] at X489 l489 y489 z489 st489 hQ489 h2489 hg489
      subst l489 y489 z489
      obtain ⟨X489, hS489, hZ489, hown489⟩ := rebS (s := s) (vm0 := s.vm) hS0 (show _ ≤ T467.heap.size from (Nat.le_trans (Nat.le_trans (Nat.le_trans (Nat.le_trans (Nat.le_trans (Nat.le_trans (Nat.le_trans (Nat.le_trans (Nat.zero_le _) E428.1) E429.1) (Keep.of_wr W433).1) (Keep.of_wr W436).1) K440.1) K446.1) K466.1) K467.1)) X489 h2489 hg489 hZ hown
      obtain ⟨rfl, Nq489, K489, P489_0, P489_1, P489_2, P489_3, P489_4⟩ := hQ489
      have N489 := Fr.app Nq467 Nq489
      have O489 := O467.keep K489 (allS g_b468 all0)
      obtain ⟨_, T490, L490, X490, hQ490, st490⟩ := cV X489 hx hZ489 hown489 (W hw 214 rfl) (W hw 215 rfl) (notFace_of_selects (args := #[]) (mvT hZ489 (W hw 217 rfl))) (W hw 217 rfl) (W hw 216 rfl) (W hw 218 rfl) (W hw 101 rfl) (by decide) (rm40 l Z a0 hw [] b468 T489.heap n0 O489 P489_4) rfl P489_2 #[vi p1, vi p2, vi p3, vi p4, vi ca, vi cb, vi co, vi 2, vi 1, vr b428, vr b447, vr b448, vr b468, .unset, .unset, .unset, .unset, .unset] [] (by rw [hml]; rfl) (hb hby at_245) pd_30 rfl (W := 0) (Nat.le_of_eq rfl) (by decide) (by decide) (by decide) (by decide)
      obtain ⟨rfl, Nq490, e490⟩ := hQ490
      have N490 := Fr.app N489 Nq490
      obtain ⟨_, T491, L491, X491, hQ491, st491⟩ := cV X490 hx hZ489 hown489 (W hw 214 rfl) (W hw 215 rfl) (notFace_of_selects (args := #[]) (mvT hZ489 (W hw 217 rfl))) (W hw 217 rfl) (W hw 216 rfl) (W hw 218 rfl) (W hw 101 rfl) (by decide) (rm40 l Z a0 hw [] b468 T489.heap n0 O489 P489_4) e490 P489_2 #[vi p1, vi p2, vi p3, vi p4, vi ca, vi cb, vi co, vi 2, vi 1, vr b428, vr b447, vr b448, vr b468, vi 1, .unset, .unset, .unset, .unset] [] (by rw [hml]; rfl) (hb hby at_252) pd_30 rfl (W := 0) (Nat.le_of_eq rfl) (by decide) (by decide) (by decide) (by decide)
      obtain ⟨rfl, Nq491, e491⟩ := hQ491
      have N491 := Fr.app N490 Nq491
      obtain ⟨b492, T492, h492, k492, X492, e492, E492, hS492, hk492, hZ492, hown492, st492⟩ := ldcS (s := s) (vm0 := T489.vm) X491 hx hZ489 hown489 (W hw 219 rfl) (own_wS hw) e491 hS489 (Nat.le_refl _) (g := (mkF m 259 #[vi p1, vi p2, vi p3, vi p4, vi ca, vi cb, vi co, vi 2, vi 1, vr b428, vr b447, vr b448, vr b468, vi 1, vi 1, .unset, .unset, .unset] [(.ref b468)])) rfl (hb hby at_259) (n := 4) (by decide) (by decide) (by decide) (by decide)
      have O492 := O489.ext E492
      have f493 := (P489_1.ext E492)
      have f494 := ((f481.keep K489).ext E492)
      have f495 := ((f482.keep K489 (ninS ne477 nin0)).ext E492)
      have f496 := (P489_0.ext E492)
      have f497 := ((f483.keep K489 (ninS ne477 nin0)).ext E492)
      have f498 := ((f484.keep K489 (ninS ne480 nin0)).ext E492)
      have f499 := (((f475.keep K467).keep K489).ext E492)
      have f501 := (P489_2.ext E492)
      obtain ⟨_, T500, L500, X500, hQ500, st500⟩ := cV X492 hx hZ492 hown492 (W hw 220 rfl) (W hw 221 rfl) (notFace_of_selects (args := #[]) (mvT hZ492 (W hw 223 rfl))) (W hw 223 rfl) (W hw 222 rfl) (W hw 224 rfl) (W hw 101 rfl) (by decide) (rm41_1 l Z a0 hw [] b468 b492 b448 b450 k452 b428 b447 h492 n0 O492 f493 f494 f495 f496 f497 f498 f499) e492 f501 #[vi p1, vi p2, vi p3, vi p4, vi ca, vi cb, vi co, vi 2, vi 1, vr b428, vr b447, vr b448, vr b468, vi 1, vi 1, .unset, .unset, .unset] [] (by rw [hml]; rfl) (hb hby at_261) pd_31 rfl (W := 0) (Nat.le_of_eq rfl) (by decide) (by decide) (by decide) (by decide)
      obtain ⟨rfl, Nq500, e500⟩ := hQ500
      have N500 := Fr.app N491 Nq500
      obtain ⟨_, T502, L502, X502, hQ502, st502⟩ := cV X500 hx hZ492 hown492 (W hw 238 rfl) (W hw 150 rfl) (notFace_of_selects (args := #[]) (mvT hZ492 (W hw 152 rfl))) (W hw 152 rfl) (W hw 151 rfl) (W hw 153 rfl) (W hw 2 rfl) (by decide) (rm26_3 l Z a0 hw [] b447 h492 n0 O492 ) e500 f499 #[vi p1, vi p2, vi p3, vi p4, vi ca, vi cb, vi co, vi 2, vi 1, vr b428, vr b447, vr b448, vr b468, vi 1, vi 1, vr b447, vr b447, .unset] [] (by rw [hml]; rfl) (hb hby at_316) pd_20 rfl (W := 0) (Nat.le_of_eq rfl) (by decide) (by decide) (by decide) (by decide)
      obtain ⟨rfl, Nq502, e502⟩ := hQ502
      have N502 := Fr.app N500 Nq502
      obtain ⟨fs, hr, hrun, hended, hREW⟩ := X502.leaveW (s := s) hS492 (by rw [e502]; exact hk492) (v := some (.int 1)) (fun h => by rw [Bd.returns] at h; cases h)
      refine ⟨_, _, pre359 _ ?_, hrun, hended, _, _, rfl, ?_, hREW.1, hREW.2.1, hREW.2.2.1, hREW.2.2.2.mono (by decide) (by decide)⟩
      · show Steps p.tables e below (s₁.setTop (mkF m 29 #[vi p1, vi p2, vi p3, vi p4, vi ca, vi cb, vi co, vi 2, .unset, .unset, .unset, .unset, .unset, .unset, .unset, .unset, .unset, .unset] [])) _
        refine XS.iloadN X0.here hx rfl (hb hby at_29) rfl ?_
        refine XS.iconst X0.here hx rfl (hb hby at_30) ?_
        refine XS.iand X0.here hx rfl (hb hby at_31) rfl ?_
        refine XS.ifNo X0.here hx rfl (hb hby at_32) rfl ((if0 _ _).trans (feq (h4 : ¬ ((p4 &&& (4 : Int32)) = (0 : Int32)))).1) ?_
        refine XS.iload X0.here hx rfl (hb hby at_35) rfl ?_
        refine XS.iconst X0.here hx rfl (hb hby at_37) ?_
        refine XS.icmpNo X0.here hx rfl (hb hby at_38) rfl (feq ((by decide) : ¬ ((2 : Int32) = (3 : Int32)))).1 ?_
        refine XS.iconst X0.here hx rfl (hb hby at_41) ?_
        refine XS.goto X0.here hx rfl (pc0 := 42) (pc' := 46) rfl (hb hby at_42) (by decide) (by decide) ?_
        refine XS.istore X0.here hx rfl (hb hby at_46) rfl (l' := #[vi p1, vi p2, vi p3, vi p4, vi ca, vi cb, vi co, vi 2, vi 1, .unset, .unset, .unset, .unset, .unset, .unset, .unset, .unset, .unset]) rfl ?_
        show Steps p.tables e below (s₁.setTop (mkF m 48 #[vi p1, vi p2, vi p3, vi p4, vi ca, vi cb, vi co, vi 2, vi 1, .unset, .unset, .unset, .unset, .unset, .unset, .unset, .unset, .unset] [])) _
        refine XS.iload X0.here hx rfl (hb hby at_48) rfl ?_
        refine XS.ifYes X0.here hx rfl (pc0 := 50) (pc' := 78) rfl (hb hby at_50) rfl ((if0 _ _).trans (feq ((by decide) : ¬ ((2 : Int32) = (0 : Int32)))).2) (by decide) (by decide) ?_
        refine XS.iload X0.here hx rfl (hb hby at_78) rfl ?_
        refine XS.iconst X0.here hx rfl (hb hby at_80) ?_
        refine XS.icmpYes X0.here hx rfl (pc0 := 81) (pc' := 151) rfl (hb hby at_81) rfl (feq ((by decide) : ¬ ((2 : Int32) = (1 : Int32)))).2 (by decide) (by decide) ?_
        refine XS.iload X0.here hx rfl (hb hby at_151) rfl ?_
        refine XS.iconst X0.here hx rfl (hb hby at_153) ?_
        refine XS.icmpNo X0.here hx rfl (hb hby at_154) rfl (teq ((by decide) : (2 : Int32) = (2 : Int32))).2 ?_
        refine st428 _ ?_
        refine XS.dup X428.here hx rfl (hb hby at_160) rfl rfl ?_
        show Steps p.tables e below (T428.setTop (mkF m 161 #[vi p1, vi p2, vi p3, vi p4, vi ca, vi cb, vi co, vi 2, vi 1, .unset, .unset, .unset, .unset, .unset, .unset, .unset, .unset, .unset] [(.ref b428), (.ref b428)])) _
        refine XS.iconst X428.here hx rfl (hb hby at_161) ?_
        refine st429 _ ?_
        refine XS.dup X429.here hx rfl (hb hby at_164) rfl rfl ?_
        refine XS.iconst X429.here hx rfl (hb hby at_165) ?_
        refine XS.bipush X429.here hx rfl (hb hby at_166) ?_
        refine st433 _ ?_
        refine XS.dup X433.here hx rfl (hb hby at_169) rfl rfl ?_
        refine XS.iconst X433.here hx rfl (hb hby at_170) ?_
        refine XS.bipush X433.here hx rfl (hb hby at_171) ?_
        refine st436 _ ?_
        show Steps p.tables e below (T436.setTop (mkF m 174 #[vi p1, vi p2, vi p3, vi p4, vi ca, vi cb, vi co, vi 2, vi 1, .unset, .unset, .unset, .unset, .unset, .unset, .unset, .unset, .unset] [(.ref b429), (.ref b428), (.ref b428)])) _
        refine st440 _ ?_
        refine XS.astore X440.here hx rfl (hb hby at_177) rfl rfl (l' := #[vi p1, vi p2, vi p3, vi p4, vi ca, vi cb, vi co, vi 2, vi 1, vr b428, .unset, .unset, .unset, .unset, .unset, .unset, .unset, .unset]) rfl ?_
        refine XS.goto X440.here hx rfl (pc0 := 179) (pc' := 189) rfl (hb hby at_179) (by decide) (by decide) ?_
        refine st446 _ ?_
        refine XS.iload X446.here hx rfl (hb hby at_213) rfl ?_
        refine XS.ifNo X446.here hx rfl (hb hby at_215) rfl ((if0 _ _).trans (feq ((by decide) : ¬ ((1 : Int32) = (0 : Int32)))).1) ?_
        refine st466 _ ?_
        refine st467 _ ?_
        refine XS.aload X467.here hx rfl (hb hby at_237) rfl rfl ?_
        refine st489.trans ?_
        show Steps p.tables e below (T489.setTop (mkF m 242 #[vi p1, vi p2, vi p3, vi p4, vi ca, vi cb, vi co, vi 2, vi 1, vr b428, vr b447, vr b448, vr b468, .unset, .unset, .unset, .unset, .unset] [.null])) _
        refine XS.pop X489.here hx rfl (hb hby at_242) rfl rfl ?_
        refine XS.aload X489.here hx rfl (hb hby at_243) rfl rfl ?_
        refine st490 _ ?_
        refine XS.istore X490.here hx rfl (hb hby at_248) rfl (l' := #[vi p1, vi p2, vi p3, vi p4, vi ca, vi cb, vi co, vi 2, vi 1, vr b428, vr b447, vr b448, vr b468, vi 1, .unset, .unset, .unset, .unset]) rfl ?_
        refine XS.aload X490.here hx rfl (hb hby at_250) rfl rfl ?_
        refine st491 _ ?_
        refine XS.istore X491.here hx rfl (hb hby at_255) rfl (l' := #[vi p1, vi p2, vi p3, vi p4, vi ca, vi cb, vi co, vi 2, vi 1, vr b428, vr b447, vr b448, vr b468, vi 1, vi 1, .unset, .unset, .unset]) rfl ?_
        refine XS.aload X491.here hx rfl (hb hby at_257) rfl rfl ?_
        refine st492 _ ?_
        refine st500 _ ?_
        show Steps p.tables e below (T500.setTop (mkF m 264 #[vi p1, vi p2, vi p3, vi p4, vi ca, vi cb, vi co, vi 2, vi 1, vr b428, vr b447, vr b448, vr b468, vi 1, vi 1, .unset, .unset, .unset] [(.ref b447)])) _
        refine XS.astore X500.here hx rfl (hb hby at_264) rfl rfl (l' := #[vi p1, vi p2, vi p3, vi p4, vi ca, vi cb, vi co, vi 2, vi 1, vr b428, vr b447, vr b448, vr b468, vi 1, vi 1, vr b447, .unset, .unset]) rfl ?_
        refine XS.iload X500.here hx rfl (hb hby at_266) rfl ?_
        refine XS.iconst X500.here hx rfl (hb hby at_268) ?_
        refine XS.icmpYes X500.here hx rfl (pc0 := 269) (pc' := 279) rfl (hb hby at_269) rfl (feq ((by decide) : ¬ ((2 : Int32) = (3 : Int32)))).2 (by decide) (by decide) ?_
        refine XS.iload X500.here hx rfl (hb hby at_279) rfl ?_
        refine XS.ifNo X500.here hx rfl (hb hby at_281) rfl ((if0 _ _).trans (feq ((by decide) : ¬ ((1 : Int32) = (0 : Int32)))).1) ?_
        refine XS.aload X500.here hx rfl (hb hby at_284) rfl rfl ?_
        refine XS.astore X500.here hx rfl (hb hby at_286) rfl rfl (l' := #[vi p1, vi p2, vi p3, vi p4, vi ca, vi cb, vi co, vi 2, vi 1, vr b428, vr b447, vr b448, vr b468, vi 1, vi 1, vr b447, vr b447, .unset]) rfl ?_
        refine XS.goto X500.here hx rfl (pc0 := 288) (pc' := 294) rfl (hb hby at_288) (by decide) (by decide) ?_
        refine XS.aload X500.here hx rfl (hb hby at_294) rfl rfl ?_
        show Steps p.tables e below (T500.setTop (mkF m 296 #[vi p1, vi p2, vi p3, vi p4, vi ca, vi cb, vi co, vi 2, vi 1, vr b428, vr b447, vr b448, vr b468, vi 1, vi 1, vr b447, vr b447, .unset] [(.ref b447)])) _
        refine XS.ifnonnullYes X500.here hx rfl (pc0 := 296) (pc' := 312) rfl (hb hby at_296) rfl (by decide) (by decide) ?_
        refine XS.aload X500.here hx rfl (hb hby at_312) rfl rfl ?_
        refine XS.aload X500.here hx rfl (hb hby at_314) rfl rfl ?_
        refine st502 _ ?_
        refine XS.istore X502.here hx rfl (hb hby at_319) rfl (l' := #[vi p1, vi p2, vi p3, vi p4, vi ca, vi cb, vi co, vi 2, vi 1, vr b428, vr b447, vr b448, vr b468, vi 1, vi 1, vr b447, vr b447, vi 1]) rfl ?_
        refine XS.iload X502.here hx rfl (hb hby at_321) rfl ?_
        refine XS.ifNo X502.here hx rfl (hb hby at_323) rfl ((if0 _ _).trans (feq ((by decide) : ¬ ((1 : Int32) = (0 : Int32)))).1) ?_
        refine XS.iload X502.here hx rfl (hb hby at_326) rfl ?_
        refine XS.ifNo X502.here hx rfl (hb hby at_328) rfl ((if0 _ _).trans (feq ((by decide) : ¬ ((1 : Int32) = (0 : Int32)))).1) ?_
        refine XS.iload X502.here hx rfl (hb hby at_331) rfl ?_
        show Steps p.tables e below (T502.setTop (mkF m 333 #[vi p1, vi p2, vi p3, vi p4, vi ca, vi cb, vi co, vi 2, vi 1, vr b428, vr b447, vr b448, vr b468, vi 1, vi 1, vr b447, vr b447, vi 1] [(.int 1)])) _
        refine XS.ifNo X502.here hx rfl (hb hby at_333) rfl ((if0 _ _).trans (feq ((by decide) : ¬ ((1 : Int32) = (0 : Int32)))).1) ?_
        refine XS.iconst X502.here hx rfl (hb hby at_336) ?_
        refine XS.goto X502.here hx rfl (pc0 := 337) (pc' := 341) rfl (hb hby at_337) (by decide) (by decide) ?_
        exact retN X502 hx (t := .boolean) Bd.returns (by simp) (hb hby at_341) hr
      · show Qrm0 Z p1 p2 p3 p4 cs5 w6 k7 h0 n0 _ T502.heap _
        exact ⟨rfl, N502⟩
  · have pre503 : ∀ t, Steps p.tables e below (s₁.setTop (mkF m 29 #[vi p1, vi p2, vi p3, vi p4, vi ca, vi cb, vi co, vi 3, .unset, .unset, .unset, .unset, .unset, .unset, .unset, .unset, .unset, .unset] [])) t → Steps p.tables e below (s₁.setTop (entryFrame m #[(.int p1), (.int p2), (.int p3), (.int p4)] maxLocals)) t := fun t kt => pre8 t (by
      show Steps p.tables e below (s₁.setTop (mkF m 29 #[vi p1, vi p2, vi p3, vi p4, vi ca, vi cb, vi co, vi kd, .unset, .unset, .unset, .unset, .unset, .unset, .unset, .unset, .unset, .unset] [])) _
      rw [hk]
      exact kt)
    by_cases h4 : (p4 &&& (4 : Int32)) = (0 : Int32)
    · obtain ⟨_, T504, L504, X504, hQ504, st504⟩ := cS X0 hx hZ hown (W hw 30 rfl) (W hw 31 rfl) (W hw 2 rfl) (W hw 32 rfl) (by decide) (rm7 l Z a0 hw [] (45 : Int32) cs5 h0 n0 O0 S_cs hcs (by decide)) e0 #[vi p1, vi p2, vi p3, vi p4, vi ca, vi cb, vi co, vi 3, vi 0, .unset, .unset, .unset, .unset, .unset, .unset, .unset, .unset, .unset] [] (by rw [hml]; rfl) (hb hby at_184) pd_11 rfl (W := 0) (Nat.le_of_eq rfl) (by decide) (by decide) (by decide) (by decide)
      obtain ⟨b505, b506, k507, rfl, Nq504, K504, sq504_b505, sq504_b506, P504_0, P504_1, P504_2, P504_3, P504_4, P504_5⟩ := hQ504
      have N504 := Fr.app N0 Nq504
      have g_b505 := own_born O0 sq504_b505
      have KK504 := Keep.trans (h := h0) (Keep.refl h0 []) K504 all0
      have O504 := O0.keep K504 all0
      obtain ⟨T508, Lc508, X508, Nq508, hQ508⟩ := sg0_189_213 hw p1 p2 p3 p4 ca cb co (3 : Int32) (0 : Int32) b505 cs5 w6 k7 T504.heap n0 O504 S_cs hcs h1_co S_D V_D P504_1 X504 hx hZ hby hml hown rfl N504 (by decide) (by decide) (by decide) (by decide)
      obtain ⟨b509, b510, b511, b512, k513, k514, K508, sq508_b509, sq508_b510, sq508_b511, sq508_b512, P508_0, P508_1, P508_2, P508_3, P508_4, P508_5, P508_6, P508_7, P508_8, P508_9, P508_10, P508_11, P508_12, P508_13, P508_14, P508_15, P508_16, P508_17, st508⟩ := hQ508
      have KK508 := Keep.trans (h := T504.heap) KK504 K508 all0
      have O508 := O504.keep K508 all0
      obtain ⟨T523, Lc523, X523, Nq523, hQ523⟩ := sg0_226_237 hw p1 p2 p3 p4 ca cb co (3 : Int32) (0 : Int32) b505 b509 b510 T508.heap n0 O508  X508 hx hZ hby hml hown rfl Nq508 (by decide) (by decide) (by decide) (by decide)
      obtain ⟨b524, K523, sq523_b524, P523_0, P523_1, P523_2, P523_3, P523_4, st523⟩ := hQ523
      have f525 := (P504_1.keep K508)
      have KK523 := Keep.trans (h := T508.heap) KK508 K523 all0
      have O523 := O508.keep K523 all0
      have f533 := (P508_9.keep K523)
      have f534 := (P508_11.keep K523 nin0)
      have f535 := (P508_10.keep K523 nin0)
      have f536 := (P508_17.keep K523 nin0)
      have f537 := (f525.keep K523)
      have f538 := ((P504_3.keep K508 nin0).keep K523 nin0)
      have f539 := ((P504_2.keep K508 nin0).keep K523 nin0)
      have f540 := ((P504_5.keep K508 nin0).keep K523 nin0)
      obtain ⟨cq541, kq541, q541a, q541b, q541c⟩ := isOf hZ rfl P523_0
      obtain ⟨_, _, ⟨T541, L541, k541, n541⟩, -, X541, h2541, hg541, ⟨Lc541, hQ541, l541, y541, z541⟩, st541⟩ := X523.virtualBackS hx (y := (⟨"com/example/runqueue/runqueue/Arguments", "nextOption", "()Ljava/lang/String;"⟩ : MethodName)) (z := (⟨"com/example/runqueue/runqueue/Arguments", "nextOption", "()Ljava/lang/String;"⟩ : MethodName)) hown (mvT hZ (W hw 108 rfl)) (mvT hZ (W hw 109 rfl)) (notFace_of_selects (args := #[]) (mvT hZ (W hw 111 rfl))) (mvT hZ (W hw 111 rfl)) (mvT hZ (W hw 110 rfl)) (by decide) (own_backOfSH (s := s) (vm0 := s.vm) (W := 0) (rm20_6 l Z a0 hw [] b524 b510 b512 k514 b505 cs5 b506 k507 (nar .byte ((45 : Int32).toInt8.toInt32)) T523.heap n0 O523 P523_2 P523_1 f533 f534 f535 f536 f537 g_b505 S_cs hcs f538 f539 f540 (by decide)) hZ (W hw 112 rfl) (W hw 101 rfl) (by decide) (by decide) (own_EW hw) (own_CH.keep KK523 hCH)) q541a q541c (g := (mkF m 239 #[vi p1, vi p2, vi p3, vi p4, vi ca, vi cb, vi co, vi 3, vi 0, vr b505, vr b509, vr b510, vr b524, .unset, .unset, .unset, .unset, .unset] [(.ref b524)])) rfl (by rw [hml]; rfl) (Steps.refl _) (argsL := []) (rest := []) (lenOf pd_29 rfl) rfl (by show 2 * 0 + _ ≤ _; exact Nat.le_of_eq rfl) (hb hby at_239) (fun _ _ => ⟨rfl, rfl, (by decide : 7 + 6 ≤ _), (by decide : 27 + 28 ≤ _)⟩)
      dsimp only [Pt.U, Pt.locs, Pt.cells, Pt.slots] at X541 l541 y541 z541 st541 hQ541 h2541 hg541
      subst l541 y541 z541
      obtain ⟨X541, hS541, hZ541, hown541⟩ := rebS (s := s) (vm0 := s.vm) hS0 (show _ ≤ T523.heap.size from (Nat.le_trans (Nat.le_trans (Nat.le_trans (Nat.zero_le _) K504.1) K508.1) K523.1)) X541 h2541 hg541 hZ hown
      obtain ⟨rfl, Nq541, K541⟩ := hQ541
      have N541 := Fr.app Nq523 Nq541
      have O541 := O523.keep K541 all0
      have f542 := (P523_4.keep K541 nin0)
      have f544 := (P523_0.keep K541)
      obtain ⟨_, T543, L543, X543, hQ543, st543⟩ := cV X541 hx hZ541 hown541 (W hw 214 rfl) (W hw 215 rfl) (notFace_of_selects (args := #[]) (mvT hZ541 (W hw 217 rfl))) (W hw 217 rfl) (W hw 216 rfl) (W hw 218 rfl) (W hw 101 rfl) (by decide) (rm40 l Z a0 hw [] b524 T541.heap n0 O541 f542) rfl f544 #[vi p1, vi p2, vi p3, vi p4, vi ca, vi cb, vi co, vi 3, vi 0, vr b505, vr b509, vr b510, vr b524, .unset, .unset, .unset, .unset, .unset] [] (by rw [hml]; rfl) (hb hby at_245) pd_30 rfl (W := 0) (Nat.le_of_eq rfl) (by decide) (by decide) (by decide) (by decide)
      obtain ⟨rfl, Nq543, e543⟩ := hQ543
      have N543 := Fr.app N541 Nq543
      obtain ⟨_, T545, L545, X545, hQ545, st545⟩ := cV X543 hx hZ541 hown541 (W hw 214 rfl) (W hw 215 rfl) (notFace_of_selects (args := #[]) (mvT hZ541 (W hw 217 rfl))) (W hw 217 rfl) (W hw 216 rfl) (W hw 218 rfl) (W hw 101 rfl) (by decide) (rm40 l Z a0 hw [] b524 T541.heap n0 O541 f542) e543 f544 #[vi p1, vi p2, vi p3, vi p4, vi ca, vi cb, vi co, vi 3, vi 0, vr b505, vr b509, vr b510, vr b524, vi 1, .unset, .unset, .unset, .unset] [] (by rw [hml]; rfl) (hb hby at_252) pd_30 rfl (W := 0) (Nat.le_of_eq rfl) (by decide) (by decide) (by decide) (by decide)
      obtain ⟨rfl, Nq545, e545⟩ := hQ545
      have N545 := Fr.app N543 Nq545
      obtain ⟨b546, T546, h546, k546, X546, e546, E546, hS546, hk546, hZ546, hown546, st546⟩ := ldcS (s := s) (vm0 := T541.vm) X545 hx hZ541 hown541 (W hw 219 rfl) (own_wS hw) e545 hS541 (Nat.le_refl _) (g := (mkF m 259 #[vi p1, vi p2, vi p3, vi p4, vi ca, vi cb, vi co, vi 3, vi 0, vr b505, vr b509, vr b510, vr b524, vi 1, vi 1, .unset, .unset, .unset] [(.ref b524)])) rfl (hb hby at_259) (n := 4) (by decide) (by decide) (by decide) (by decide)
      have O546 := O541.ext E546
      have f547 := ((P523_1.keep K541 nin0).ext E546)
      have f548 := ((f533.keep K541).ext E546)
      have f549 := ((f534.keep K541 nin0).ext E546)
      have f550 := ((P523_2.keep K541 nin0).ext E546)
      have f551 := ((f535.keep K541 nin0).ext E546)
      have f552 := ((f536.keep K541 nin0).ext E546)
      have f553 := ((f537.keep K541).ext E546)
      have f555 := (f544.ext E546)
      obtain ⟨_, T554, L554, X554, hQ554, st554⟩ := cV X546 hx hZ546 hown546 (W hw 220 rfl) (W hw 221 rfl) (notFace_of_selects (args := #[]) (mvT hZ546 (W hw 223 rfl))) (W hw 223 rfl) (W hw 222 rfl) (W hw 224 rfl) (W hw 101 rfl) (by decide) (rm41_2 l Z a0 hw [] b524 b546 b510 b512 k514 b505 h546 n0 O546 f547 f548 f549 f550 f551 f552 f553) e546 f555 #[vi p1, vi p2, vi p3, vi p4, vi ca, vi cb, vi co, vi 3, vi 0, vr b505, vr b509, vr b510, vr b524, vi 1, vi 1, .unset, .unset, .unset] [] (by rw [hml]; rfl) (hb hby at_261) pd_31 rfl (W := 0) (Nat.le_of_eq rfl) (by decide) (by decide) (by decide) (by decide)
      obtain ⟨rfl, Nq554, e554⟩ := hQ554
      have N554 := Fr.app N545 Nq554
      obtain ⟨_, T556, L556, X556, hQ556, st556⟩ := cV X554 hx hZ546 hown546 (W hw 238 rfl) (W hw 150 rfl) (notFace_of_selects (args := #[]) (mvT hZ546 (W hw 152 rfl))) (W hw 152 rfl) (W hw 151 rfl) (W hw 153 rfl) (W hw 2 rfl) (by decide) (rm26_3 l Z a0 hw [] b505 h546 n0 O546 ) e554 f553 #[vi p1, vi p2, vi p3, vi p4, vi ca, vi cb, vi co, vi 3, vi 0, vr b505, vr b509, vr b510, vr b524, vi 1, vi 1, vr b505, vr b505, .unset] [] (by rw [hml]; rfl) (hb hby at_316) pd_20 rfl (W := 0) (Nat.le_of_eq rfl) (by decide) (by decide) (by decide) (by decide)
      obtain ⟨rfl, Nq556, e556⟩ := hQ556
      have N556 := Fr.app N554 Nq556
      obtain ⟨fs, hr, hrun, hended, hREW⟩ := X556.leaveW (s := s) hS546 (by rw [e556]; exact hk546) (v := some (.int 1)) (fun h => by rw [Bd.returns] at h; cases h)
      refine ⟨_, _, pre503 _ ?_, hrun, hended, _, _, rfl, ?_, hREW.1, hREW.2.1, hREW.2.2.1, hREW.2.2.2.mono (by decide) (by decide)⟩
      · show Steps p.tables e below (s₁.setTop (mkF m 29 #[vi p1, vi p2, vi p3, vi p4, vi ca, vi cb, vi co, vi 3, .unset, .unset, .unset, .unset, .unset, .unset, .unset, .unset, .unset, .unset] [])) _
        refine XS.iloadN X0.here hx rfl (hb hby at_29) rfl ?_
        refine XS.iconst X0.here hx rfl (hb hby at_30) ?_
        refine XS.iand X0.here hx rfl (hb hby at_31) rfl ?_
        refine XS.ifYes X0.here hx rfl (pc0 := 32) (pc' := 45) rfl (hb hby at_32) rfl ((if0 _ _).trans (teq (h4 : (p4 &&& (4 : Int32)) = (0 : Int32))).1) (by decide) (by decide) ?_
        refine XS.iconst X0.here hx rfl (hb hby at_45) ?_
        refine XS.istore X0.here hx rfl (hb hby at_46) rfl (l' := #[vi p1, vi p2, vi p3, vi p4, vi ca, vi cb, vi co, vi 3, vi 0, .unset, .unset, .unset, .unset, .unset, .unset, .unset, .unset, .unset]) rfl ?_
        refine XS.iload X0.here hx rfl (hb hby at_48) rfl ?_
        refine XS.ifYes X0.here hx rfl (pc0 := 50) (pc' := 78) rfl (hb hby at_50) rfl ((if0 _ _).trans (feq ((by decide) : ¬ ((3 : Int32) = (0 : Int32)))).2) (by decide) (by decide) ?_
        refine XS.iload X0.here hx rfl (hb hby at_78) rfl ?_
        refine XS.iconst X0.here hx rfl (hb hby at_80) ?_
        show Steps p.tables e below (s₁.setTop (mkF m 81 #[vi p1, vi p2, vi p3, vi p4, vi ca, vi cb, vi co, vi 3, vi 0, .unset, .unset, .unset, .unset, .unset, .unset, .unset, .unset, .unset] [(.int 1), (.int 3)])) _
        refine XS.icmpYes X0.here hx rfl (pc0 := 81) (pc' := 151) rfl (hb hby at_81) rfl (feq ((by decide) : ¬ ((3 : Int32) = (1 : Int32)))).2 (by decide) (by decide) ?_
        refine XS.iload X0.here hx rfl (hb hby at_151) rfl ?_
        refine XS.iconst X0.here hx rfl (hb hby at_153) ?_
        refine XS.icmpYes X0.here hx rfl (pc0 := 154) (pc' := 182) rfl (hb hby at_154) rfl (feq ((by decide) : ¬ ((3 : Int32) = (2 : Int32)))).2 (by decide) (by decide) ?_
        refine XS.bipush X0.here hx rfl (hb hby at_182) ?_
        refine st504 _ ?_
        refine XS.astore X504.here hx rfl (hb hby at_187) rfl rfl (l' := #[vi p1, vi p2, vi p3, vi p4, vi ca, vi cb, vi co, vi 3, vi 0, vr b505, .unset, .unset, .unset, .unset, .unset, .unset, .unset, .unset]) rfl ?_
        refine st508 _ ?_
        refine XS.iload X508.here hx rfl (hb hby at_213) rfl ?_
        refine XS.ifYes X508.here hx rfl (pc0 := 215) (pc' := 226) rfl (hb hby at_215) rfl ((if0 _ _).trans (teq ((by decide) : (0 : Int32) = (0 : Int32))).1) (by decide) (by decide) ?_
        show Steps p.tables e below (T508.setTop (mkF m 226 #[vi p1, vi p2, vi p3, vi p4, vi ca, vi cb, vi co, vi 3, vi 0, vr b505, vr b509, vr b510, .unset, .unset, .unset, .unset, .unset, .unset] [])) _
        refine st523 _ ?_
        refine XS.aload X523.here hx rfl (hb hby at_237) rfl rfl ?_
        refine st541.trans ?_
        refine XS.pop X541.here hx rfl (hb hby at_242) rfl rfl ?_
        refine XS.aload X541.here hx rfl (hb hby at_243) rfl rfl ?_
        refine st543 _ ?_
        refine XS.istore X543.here hx rfl (hb hby at_248) rfl (l' := #[vi p1, vi p2, vi p3, vi p4, vi ca, vi cb, vi co, vi 3, vi 0, vr b505, vr b509, vr b510, vr b524, vi 1, .unset, .unset, .unset, .unset]) rfl ?_
        refine XS.aload X543.here hx rfl (hb hby at_250) rfl rfl ?_
        refine st545 _ ?_
        refine XS.istore X545.here hx rfl (hb hby at_255) rfl (l' := #[vi p1, vi p2, vi p3, vi p4, vi ca, vi cb, vi co, vi 3, vi 0, vr b505, vr b509, vr b510, vr b524, vi 1, vi 1, .unset, .unset, .unset]) rfl ?_
        show Steps p.tables e below (T545.setTop (mkF m 257 #[vi p1, vi p2, vi p3, vi p4, vi ca, vi cb, vi co, vi 3, vi 0, vr b505, vr b509, vr b510, vr b524, vi 1, vi 1, .unset, .unset, .unset] [])) _
        refine XS.aload X545.here hx rfl (hb hby at_257) rfl rfl ?_
        refine st546 _ ?_
        refine st554 _ ?_
        refine XS.astore X554.here hx rfl (hb hby at_264) rfl rfl (l' := #[vi p1, vi p2, vi p3, vi p4, vi ca, vi cb, vi co, vi 3, vi 0, vr b505, vr b509, vr b510, vr b524, vi 1, vi 1, vr b505, .unset, .unset]) rfl ?_
        refine XS.iload X554.here hx rfl (hb hby at_266) rfl ?_
        refine XS.iconst X554.here hx rfl (hb hby at_268) ?_
        refine XS.icmpNo X554.here hx rfl (hb hby at_269) rfl (teq ((by decide) : (3 : Int32) = (3 : Int32))).2 ?_
        refine XS.aload X554.here hx rfl (hb hby at_272) rfl rfl ?_
        refine XS.astore X554.here hx rfl (hb hby at_274) rfl rfl (l' := #[vi p1, vi p2, vi p3, vi p4, vi ca, vi cb, vi co, vi 3, vi 0, vr b505, vr b509, vr b510, vr b524, vi 1, vi 1, vr b505, vr b505, .unset]) rfl ?_
        refine XS.goto X554.here hx rfl (pc0 := 276) (pc' := 294) rfl (hb hby at_276) (by decide) (by decide) ?_
        show Steps p.tables e below (T554.setTop (mkF m 294 #[vi p1, vi p2, vi p3, vi p4, vi ca, vi cb, vi co, vi 3, vi 0, vr b505, vr b509, vr b510, vr b524, vi 1, vi 1, vr b505, vr b505, .unset] [])) _
        refine XS.aload X554.here hx rfl (hb hby at_294) rfl rfl ?_
        refine XS.ifnonnullYes X554.here hx rfl (pc0 := 296) (pc' := 312) rfl (hb hby at_296) rfl (by decide) (by decide) ?_
        refine XS.aload X554.here hx rfl (hb hby at_312) rfl rfl ?_
        refine XS.aload X554.here hx rfl (hb hby at_314) rfl rfl ?_
        refine st556 _ ?_
        refine XS.istore X556.here hx rfl (hb hby at_319) rfl (l' := #[vi p1, vi p2, vi p3, vi p4, vi ca, vi cb, vi co, vi 3, vi 0, vr b505, vr b509, vr b510, vr b524, vi 1, vi 1, vr b505, vr b505, vi 1]) rfl ?_
        refine XS.iload X556.here hx rfl (hb hby at_321) rfl ?_
        refine XS.ifNo X556.here hx rfl (hb hby at_323) rfl ((if0 _ _).trans (feq ((by decide) : ¬ ((1 : Int32) = (0 : Int32)))).1) ?_
        refine XS.iload X556.here hx rfl (hb hby at_326) rfl ?_
        refine XS.ifNo X556.here hx rfl (hb hby at_328) rfl ((if0 _ _).trans (feq ((by decide) : ¬ ((1 : Int32) = (0 : Int32)))).1) ?_
        show Steps p.tables e below (T556.setTop (mkF m 331 #[vi p1, vi p2, vi p3, vi p4, vi ca, vi cb, vi co, vi 3, vi 0, vr b505, vr b509, vr b510, vr b524, vi 1, vi 1, vr b505, vr b505, vi 1] [])) _
        refine XS.iload X556.here hx rfl (hb hby at_331) rfl ?_
        refine XS.ifNo X556.here hx rfl (hb hby at_333) rfl ((if0 _ _).trans (feq ((by decide) : ¬ ((1 : Int32) = (0 : Int32)))).1) ?_
        refine XS.iconst X556.here hx rfl (hb hby at_336) ?_
        refine XS.goto X556.here hx rfl (pc0 := 337) (pc' := 341) rfl (hb hby at_337) (by decide) (by decide) ?_
        exact retN X556 hx (t := .boolean) Bd.returns (by simp) (hb hby at_341) hr
      · show Qrm0 Z p1 p2 p3 p4 cs5 w6 k7 h0 n0 _ T556.heap _
        exact ⟨rfl, N556⟩
    · obtain ⟨_, T557, L557, X557, hQ557, st557⟩ := cS X0 hx hZ hown (W hw 30 rfl) (W hw 31 rfl) (W hw 2 rfl) (W hw 32 rfl) (by decide) (rm7 l Z a0 hw [] (45 : Int32) cs5 h0 n0 O0 S_cs hcs (by decide)) e0 #[vi p1, vi p2, vi p3, vi p4, vi ca, vi cb, vi co, vi 3, vi 0, .unset, .unset, .unset, .unset, .unset, .unset, .unset, .unset, .unset] [] (by rw [hml]; rfl) (hb hby at_184) pd_11 rfl (W := 0) (Nat.le_of_eq rfl) (by decide) (by decide) (by decide) (by decide)
      obtain ⟨b558, b559, k560, rfl, Nq557, K557, sq557_b558, sq557_b559, P557_0, P557_1, P557_2, P557_3, P557_4, P557_5⟩ := hQ557
      have N557 := Fr.app N0 Nq557
      have g_b558 := own_born O0 sq557_b558
      have KK557 := Keep.trans (h := h0) (Keep.refl h0 []) K557 all0
      have O557 := O0.keep K557 all0
      obtain ⟨T561, Lc561, X561, Nq561, hQ561⟩ := sg0_189_213 hw p1 p2 p3 p4 ca cb co (3 : Int32) (0 : Int32) b558 cs5 w6 k7 T557.heap n0 O557 S_cs hcs h1_co S_D V_D P557_1 X557 hx hZ hby hml hown rfl N557 (by decide) (by decide) (by decide) (by decide)
      obtain ⟨b562, b563, b564, b565, k566, k567, K561, sq561_b562, sq561_b563, sq561_b564, sq561_b565, P561_0, P561_1, P561_2, P561_3, P561_4, P561_5, P561_6, P561_7, P561_8, P561_9, P561_10, P561_11, P561_12, P561_13, P561_14, P561_15, P561_16, P561_17, st561⟩ := hQ561
      have KK561 := Keep.trans (h := T557.heap) KK557 K561 all0
      have O561 := O557.keep K561 all0
      obtain ⟨T576, Lc576, X576, Nq576, hQ576⟩ := sg0_226_237 hw p1 p2 p3 p4 ca cb co (3 : Int32) (0 : Int32) b558 b562 b563 T561.heap n0 O561  X561 hx hZ hby hml hown rfl Nq561 (by decide) (by decide) (by decide) (by decide)
      obtain ⟨b577, K576, sq576_b577, P576_0, P576_1, P576_2, P576_3, P576_4, st576⟩ := hQ576
      have f578 := (P557_1.keep K561)
      have KK576 := Keep.trans (h := T561.heap) KK561 K576 all0
      have O576 := O561.keep K576 all0
      have f586 := (P561_9.keep K576)
      have f587 := (P561_11.keep K576 nin0)
      have f588 := (P561_10.keep K576 nin0)
      have f589 := (P561_17.keep K576 nin0)
      have f590 := (f578.keep K576)
      have f591 := ((P557_3.keep K561 nin0).keep K576 nin0)
      have f592 := ((P557_2.keep K561 nin0).keep K576 nin0)
      have f593 := ((P557_5.keep K561 nin0).keep K576 nin0)
      obtain ⟨cq594, kq594, q594a, q594b, q594c⟩ := isOf hZ rfl P576_0
      obtain ⟨_, _, ⟨T594, L594, k594, n594⟩, -, X594, h2594, hg594, ⟨Lc594, hQ594, l594, y594, z594⟩, st594⟩ := X576.virtualBackS hx (y := (⟨"com/example/runqueue/runqueue/Arguments", "nextOption", "()Ljava/lang/String;"⟩ : MethodName)) (z := (⟨"com/example/runqueue/runqueue/Arguments", "nextOption", "()Ljava/lang/String;"⟩ : MethodName)) hown (mvT hZ (W hw 108 rfl)) (mvT hZ (W hw 109 rfl)) (notFace_of_selects (args := #[]) (mvT hZ (W hw 111 rfl))) (mvT hZ (W hw 111 rfl)) (mvT hZ (W hw 110 rfl)) (by decide) (own_backOfSH (s := s) (vm0 := s.vm) (W := 0) (rm20_6 l Z a0 hw [] b577 b563 b565 k567 b558 cs5 b559 k560 (nar .byte ((45 : Int32).toInt8.toInt32)) T576.heap n0 O576 P576_2 P576_1 f586 f587 f588 f589 f590 g_b558 S_cs hcs f591 f592 f593 (by decide)) hZ (W hw 112 rfl) (W hw 101 rfl) (by decide) (by decide) (own_EW hw) (own_CH.keep KK576 hCH)) q594a q594c (g := (mkF m 239 #[vi p1, vi p2, vi p3, vi p4, vi ca, vi cb, vi co, vi 3, vi 0, vr b558, vr b562, vr b563, vr b577, .unset, .unset, .unset, .unset, .unset] [(.ref b577)])) rfl (by rw [hml]; rfl) (Steps.refl _) (argsL := []) (rest := []) (lenOf pd_29 rfl) rfl (by show 2 * 0 + _ ≤ _; exact Nat.le_of_eq rfl) (hb hby at_239) (fun _ _ => ⟨rfl, rfl, (by decide : 7 + 6 ≤ _), (by decide : 27 + 28 ≤ _)⟩)
      dsimp only [Pt.U, Pt.locs, Pt.cells, Pt.slots] at X594 l594 y594 z594 st594 hQ594 h2594 hg594
      subst l594 y594 z594
      obtain ⟨X594, hS594, hZ594, hown594⟩ := rebS (s := s) (vm0 := s.vm) hS0 (show _ ≤ T576.heap.size from (Nat.le_trans (Nat.le_trans (Nat.le_trans (Nat.zero_le _) K557.1) K561.1) K576.1)) X594 h2594 hg594 hZ hown
      obtain ⟨rfl, Nq594, K594⟩ := hQ594
      have N594 := Fr.app Nq576 Nq594
      have O594 := O576.keep K594 all0
      have f595 := (P576_4.keep K594 nin0)
      have f597 := (P576_0.keep K594)
      obtain ⟨_, T596, L596, X596, hQ596, st596⟩ := cV X594 hx hZ594 hown594 (W hw 214 rfl) (W hw 215 rfl) (notFace_of_selects (args := #[]) (mvT hZ594 (W hw 217 rfl))) (W hw 217 rfl) (W hw 216 rfl) (W hw 218 rfl) (W hw 101 rfl) (by decide) (rm40 l Z a0 hw [] b577 T594.heap n0 O594 f595) rfl f597 #[vi p1, vi p2, vi p3, vi p4, vi ca, vi cb, vi co, vi 3, vi 0, vr b558, vr b562, vr b563, vr b577, .unset, .unset, .unset, .unset, .unset] [] (by rw [hml]; rfl) (hb hby at_245) pd_30 rfl (W := 0) (Nat.le_of_eq rfl) (by decide) (by decide) (by decide) (by decide)
      obtain ⟨rfl, Nq596, e596⟩ := hQ596
      have N596 := Fr.app N594 Nq596
      obtain ⟨_, T598, L598, X598, hQ598, st598⟩ := cV X596 hx hZ594 hown594 (W hw 214 rfl) (W hw 215 rfl) (notFace_of_selects (args := #[]) (mvT hZ594 (W hw 217 rfl))) (W hw 217 rfl) (W hw 216 rfl) (W hw 218 rfl) (W hw 101 rfl) (by decide) (rm40 l Z a0 hw [] b577 T594.heap n0 O594 f595) e596 f597 #[vi p1, vi p2, vi p3, vi p4, vi ca, vi cb, vi co, vi 3, vi 0, vr b558, vr b562, vr b563, vr b577, vi 1, .unset, .unset, .unset, .unset] [] (by rw [hml]; rfl) (hb hby at_252) pd_30 rfl (W := 0) (Nat.le_of_eq rfl) (by decide) (by decide) (by decide) (by decide)
      obtain ⟨rfl, Nq598, e598⟩ := hQ598
      have N598 := Fr.app N596 Nq598
      obtain ⟨b599, T599, h599, k599, X599, e599, E599, hS599, hk599, hZ599, hown599, st599⟩ := ldcS (s := s) (vm0 := T594.vm) X598 hx hZ594 hown594 (W hw 219 rfl) (own_wS hw) e598 hS594 (Nat.le_refl _) (g := (mkF m 259 #[vi p1, vi p2, vi p3, vi p4, vi ca, vi cb, vi co, vi 3, vi 0, vr b558, vr b562, vr b563, vr b577, vi 1, vi 1, .unset, .unset, .unset] [(.ref b577)])) rfl (hb hby at_259) (n := 4) (by decide) (by decide) (by decide) (by decide)
      have O599 := O594.ext E599
      have f600 := ((P576_1.keep K594 nin0).ext E599)
      have f601 := ((f586.keep K594).ext E599)
      have f602 := ((f587.keep K594 nin0).ext E599)
      have f603 := ((P576_2.keep K594 nin0).ext E599)
      have f604 := ((f588.keep K594 nin0).ext E599)
      have f605 := ((f589.keep K594 nin0).ext E599)
      have f606 := ((f590.keep K594).ext E599)
      have f608 := (f597.ext E599)
      obtain ⟨_, T607, L607, X607, hQ607, st607⟩ := cV X599 hx hZ599 hown599 (W hw 220 rfl) (W hw 221 rfl) (notFace_of_selects (args := #[]) (mvT hZ599 (W hw 223 rfl))) (W hw 223 rfl) (W hw 222 rfl) (W hw 224 rfl) (W hw 101 rfl) (by decide) (rm41_2 l Z a0 hw [] b577 b599 b563 b565 k567 b558 h599 n0 O599 f600 f601 f602 f603 f604 f605 f606) e599 f608 #[vi p1, vi p2, vi p3, vi p4, vi ca, vi cb, vi co, vi 3, vi 0, vr b558, vr b562, vr b563, vr b577, vi 1, vi 1, .unset, .unset, .unset] [] (by rw [hml]; rfl) (hb hby at_261) pd_31 rfl (W := 0) (Nat.le_of_eq rfl) (by decide) (by decide) (by decide) (by decide)
      obtain ⟨rfl, Nq607, e607⟩ := hQ607
      have N607 := Fr.app N598 Nq607
      obtain ⟨_, T609, L609, X609, hQ609, st609⟩ := cV X607 hx hZ599 hown599 (W hw 238 rfl) (W hw 150 rfl) (notFace_of_selects (args := #[]) (mvT hZ599 (W hw 152 rfl))) (W hw 152 rfl) (W hw 151 rfl) (W hw 153 rfl) (W hw 2 rfl) (by decide) (rm26_3 l Z a0 hw [] b558 h599 n0 O599 ) e607 f606 #[vi p1, vi p2, vi p3, vi p4, vi ca, vi cb, vi co, vi 3, vi 0, vr b558, vr b562, vr b563, vr b577, vi 1, vi 1, vr b558, vr b558, .unset] [] (by rw [hml]; rfl) (hb hby at_316) pd_20 rfl (W := 0) (Nat.le_of_eq rfl) (by decide) (by decide) (by decide) (by decide)
      obtain ⟨rfl, Nq609, e609⟩ := hQ609
      have N609 := Fr.app N607 Nq609
      obtain ⟨fs, hr, hrun, hended, hREW⟩ := X609.leaveW (s := s) hS599 (by rw [e609]; exact hk599) (v := some (.int 1)) (fun h => by rw [Bd.returns] at h; cases h)
      refine ⟨_, _, pre503 _ ?_, hrun, hended, _, _, rfl, ?_, hREW.1, hREW.2.1, hREW.2.2.1, hREW.2.2.2.mono (by decide) (by decide)⟩
      · show Steps p.tables e below (s₁.setTop (mkF m 29 #[vi p1, vi p2, vi p3, vi p4, vi ca, vi cb, vi co, vi 3, .unset, .unset, .unset, .unset, .unset, .unset, .unset, .unset, .unset, .unset] [])) _
        refine XS.iloadN X0.here hx rfl (hb hby at_29) rfl ?_
        refine XS.iconst X0.here hx rfl (hb hby at_30) ?_
        refine XS.iand X0.here hx rfl (hb hby at_31) rfl ?_
        refine XS.ifNo X0.here hx rfl (hb hby at_32) rfl ((if0 _ _).trans (feq (h4 : ¬ ((p4 &&& (4 : Int32)) = (0 : Int32)))).1) ?_
        refine XS.iload X0.here hx rfl (hb hby at_35) rfl ?_
        refine XS.iconst X0.here hx rfl (hb hby at_37) ?_
        refine XS.icmpYes X0.here hx rfl (pc0 := 38) (pc' := 45) rfl (hb hby at_38) rfl (teq ((by decide) : (3 : Int32) = (3 : Int32))).1 (by decide) (by decide) ?_
        refine XS.iconst X0.here hx rfl (hb hby at_45) ?_
        refine XS.istore X0.here hx rfl (hb hby at_46) rfl (l' := #[vi p1, vi p2, vi p3, vi p4, vi ca, vi cb, vi co, vi 3, vi 0, .unset, .unset, .unset, .unset, .unset, .unset, .unset, .unset, .unset]) rfl ?_
        refine XS.iload X0.here hx rfl (hb hby at_48) rfl ?_
        show Steps p.tables e below (s₁.setTop (mkF m 50 #[vi p1, vi p2, vi p3, vi p4, vi ca, vi cb, vi co, vi 3, vi 0, .unset, .unset, .unset, .unset, .unset, .unset, .unset, .unset, .unset] [(.int 3)])) _
        refine XS.ifYes X0.here hx rfl (pc0 := 50) (pc' := 78) rfl (hb hby at_50) rfl ((if0 _ _).trans (feq ((by decide) : ¬ ((3 : Int32) = (0 : Int32)))).2) (by decide) (by decide) ?_
        refine XS.iload X0.here hx rfl (hb hby at_78) rfl ?_
        refine XS.iconst X0.here hx rfl (hb hby at_80) ?_
        refine XS.icmpYes X0.here hx rfl (pc0 := 81) (pc' := 151) rfl (hb hby at_81) rfl (feq ((by decide) : ¬ ((3 : Int32) = (1 : Int32)))).2 (by decide) (by decide) ?_
        refine XS.iload X0.here hx rfl (hb hby at_151) rfl ?_
        refine XS.iconst X0.here hx rfl (hb hby at_153) ?_
        refine XS.icmpYes X0.here hx rfl (pc0 := 154) (pc' := 182) rfl (hb hby at_154) rfl (feq ((by decide) : ¬ ((3 : Int32) = (2 : Int32)))).2 (by decide) (by decide) ?_
        refine XS.bipush X0.here hx rfl (hb hby at_182) ?_
        refine st557 _ ?_
        refine XS.astore X557.here hx rfl (hb hby at_187) rfl rfl (l' := #[vi p1, vi p2, vi p3, vi p4, vi ca, vi cb, vi co, vi 3, vi 0, vr b558, .unset, .unset, .unset, .unset, .unset, .unset, .unset, .unset]) rfl ?_
        show Steps p.tables e below (T557.setTop (mkF m 189 #[vi p1, vi p2, vi p3, vi p4, vi ca, vi cb, vi co, vi 3, vi 0, vr b558, .unset, .unset, .unset, .unset, .unset, .unset, .unset, .unset] [])) _
        refine st561 _ ?_
        refine XS.iload X561.here hx rfl (hb hby at_213) rfl ?_
        refine XS.ifYes X561.here hx rfl (pc0 := 215) (pc' := 226) rfl (hb hby at_215) rfl ((if0 _ _).trans (teq ((by decide) : (0 : Int32) = (0 : Int32))).1) (by decide) (by decide) ?_
        refine st576 _ ?_
        refine XS.aload X576.here hx rfl (hb hby at_237) rfl rfl ?_
        refine st594.trans ?_
        refine XS.pop X594.here hx rfl (hb hby at_242) rfl rfl ?_
        refine XS.aload X594.here hx rfl (hb hby at_243) rfl rfl ?_
        refine st596 _ ?_
        refine XS.istore X596.here hx rfl (hb hby at_248) rfl (l' := #[vi p1, vi p2, vi p3, vi p4, vi ca, vi cb, vi co, vi 3, vi 0, vr b558, vr b562, vr b563, vr b577, vi 1, .unset, .unset, .unset, .unset]) rfl ?_
        show Steps p.tables e below (T596.setTop (mkF m 250 #[vi p1, vi p2, vi p3, vi p4, vi ca, vi cb, vi co, vi 3, vi 0, vr b558, vr b562, vr b563, vr b577, vi 1, .unset, .unset, .unset, .unset] [])) _
        refine XS.aload X596.here hx rfl (hb hby at_250) rfl rfl ?_
        refine st598 _ ?_
        refine XS.istore X598.here hx rfl (hb hby at_255) rfl (l' := #[vi p1, vi p2, vi p3, vi p4, vi ca, vi cb, vi co, vi 3, vi 0, vr b558, vr b562, vr b563, vr b577, vi 1, vi 1, .unset, .unset, .unset]) rfl ?_
        refine XS.aload X598.here hx rfl (hb hby at_257) rfl rfl ?_
        refine st599 _ ?_
        refine st607 _ ?_
        refine XS.astore X607.here hx rfl (hb hby at_264) rfl rfl (l' := #[vi p1, vi p2, vi p3, vi p4, vi ca, vi cb, vi co, vi 3, vi 0, vr b558, vr b562, vr b563, vr b577, vi 1, vi 1, vr b558, .unset, .unset]) rfl ?_
        refine XS.iload X607.here hx rfl (hb hby at_266) rfl ?_
        refine XS.iconst X607.here hx rfl (hb hby at_268) ?_
        refine XS.icmpNo X607.here hx rfl (hb hby at_269) rfl (teq ((by decide) : (3 : Int32) = (3 : Int32))).2 ?_
        show Steps p.tables e below (T607.setTop (mkF m 272 #[vi p1, vi p2, vi p3, vi p4, vi ca, vi cb, vi co, vi 3, vi 0, vr b558, vr b562, vr b563, vr b577, vi 1, vi 1, vr b558, .unset, .unset] [])) _
        refine XS.aload X607.here hx rfl (hb hby at_272) rfl rfl ?_
        refine XS.astore X607.here hx rfl (hb hby at_274) rfl rfl (l' := #[vi p1, vi p2, vi p3, vi p4, vi ca, vi cb, vi co, vi 3, vi 0, vr b558, vr b562, vr b563, vr b577, vi 1, vi 1, vr b558, vr b558, .unset]) rfl ?_
        refine XS.goto X607.here hx rfl (pc0 := 276) (pc' := 294) rfl (hb hby at_276) (by decide) (by decide) ?_
        refine XS.aload X607.here hx rfl (hb hby at_294) rfl rfl ?_
        refine XS.ifnonnullYes X607.here hx rfl (pc0 := 296) (pc' := 312) rfl (hb hby at_296) rfl (by decide) (by decide) ?_
        refine XS.aload X607.here hx rfl (hb hby at_312) rfl rfl ?_
        refine XS.aload X607.here hx rfl (hb hby at_314) rfl rfl ?_
        refine st609 _ ?_
        refine XS.istore X609.here hx rfl (hb hby at_319) rfl (l' := #[vi p1, vi p2, vi p3, vi p4, vi ca, vi cb, vi co, vi 3, vi 0, vr b558, vr b562, vr b563, vr b577, vi 1, vi 1, vr b558, vr b558, vi 1]) rfl ?_
        refine XS.iload X609.here hx rfl (hb hby at_321) rfl ?_
        show Steps p.tables e below (T609.setTop (mkF m 323 #[vi p1, vi p2, vi p3, vi p4, vi ca, vi cb, vi co, vi 3, vi 0, vr b558, vr b562, vr b563, vr b577, vi 1, vi 1, vr b558, vr b558, vi 1] [(.int 1)])) _
        refine XS.ifNo X609.here hx rfl (hb hby at_323) rfl ((if0 _ _).trans (feq ((by decide) : ¬ ((1 : Int32) = (0 : Int32)))).1) ?_
        refine XS.iload X609.here hx rfl (hb hby at_326) rfl ?_
        refine XS.ifNo X609.here hx rfl (hb hby at_328) rfl ((if0 _ _).trans (feq ((by decide) : ¬ ((1 : Int32) = (0 : Int32)))).1) ?_
        refine XS.iload X609.here hx rfl (hb hby at_331) rfl ?_
        refine XS.ifNo X609.here hx rfl (hb hby at_333) rfl ((if0 _ _).trans (feq ((by decide) : ¬ ((1 : Int32) = (0 : Int32)))).1) ?_
        refine XS.iconst X609.here hx rfl (hb hby at_336) ?_
        refine XS.goto X609.here hx rfl (pc0 := 337) (pc' := 341) rfl (hb hby at_337) (by decide) (by decide) ?_
        exact retN X609 hx (t := .boolean) Bd.returns (by simp) (hb hby at_341) hr
      · show Qrm0 Z p1 p2 p3 p4 cs5 w6 k7 h0 n0 _ T609.heap _
        exact ⟨rfl, N609⟩
set_option maxRecDepth 65536 in
set_option maxHeartbeats 40000000 in
theorem comes_1 {Post : Tables → Env → Array Value → State → Outcome → State → Prop} (hpost : ∀ tb e args s v u, (limb_1_1.after args s (.returned v) u = true ∧ limb_1_2.after args s (.returned v) u = true ∧ True) → ReturnedEndW s (.returned v) u (Jvm.fieldLocs frame_1_writes args s ++ Jvm.arrayLocs frame_1_arrays args s ++ Jvm.staticLocs frame_1_statics s) 32 3264 → Post tb e args s (.returned v) u) :
    ArmFor flags0 classFile x code maxLocals ret World_1 tables_1 room_1 Calls_1 rest_1 Pre_1 Post := by
  intro l hfl _ _ p e ha hc hk s m args below hf hA hF happ hP
  obtain ⟨hcalls, hrest, hpre⟩ := hP
  obtain ⟨-, -, -, hnamed, -, -, -, hat⟩ := (Spec.applies_iff hf).mp happ
  obtain ⟨hg, hn⟩ := and_e (Cond.before_iff.mp (show (Jvm.Cond.and given_1 narrow_1).before args s = true from hpre))
  obtain ⟨u0, u1⟩ := and_e hg
  obtain ⟨u2, u3⟩ := and_e u1
  obtain ⟨u4, u5⟩ := and_e u3
  obtain ⟨u6, u7⟩ := and_e u5
  obtain ⟨w0, w1, w2, w3, rfl⟩ : ∃ w0 w1 w2 w3 : Value, args = #[w0, w1, w2, w3] := by
    have hs : args.size = 4 := by simpa [Cond.value, given_1] using u0
    obtain ⟨L⟩ := args
    match L, hs with
    | [w0, w1, w2, w3], _ => exact ⟨w0, w1, w2, w3, rfl⟩
  have hw := fun d (hd : d ∈ tables_1) => atoms_spec (ws := Jvm.Cond.code x code maxLocals ret :: tables_1) hat d (List.mem_cons_of_mem _ hd)
  have hfit : Fit s := fun {y c} hc i hi => by
    obtain ⟨ha, rfl⟩ := Array.getElem?_eq_some_iff.mp hc
    have q := List.all_eq_true.mp ((Array.all_eq_true_iff_forall_mem.mp hF) _ (Array.getElem_mem ha)) i (List.mem_range.mpr hi)
    simpa [Array.getElem?_eq_getElem hi] using q
  obtain ⟨hsets, hown0⟩ := atoms_of _ (rest_1_c_eq ▸ (show rest_1_c.before _ s = true from hrest))
  have hr0 := Cond.before_iff.mp hown0
  obtain ⟨i0, ei0⟩ := is_v u2
  obtain rfl : w0 = (.int i0) := Option.some.inj ei0
  obtain ⟨i1, ei1⟩ := is_v u4
  obtain rfl : w1 = (.int i1) := Option.some.inj ei1
  obtain ⟨i2, ei2⟩ := is_v u6
  obtain rfl : w2 = (.int i2) := Option.some.inj ei2
  obtain ⟨i3, ei3⟩ := is_v u7
  obtain rfl : w3 = (.int i3) := Option.some.inj ei3
  obtain ⟨cs, evcs⟩ := is_v (Cond.before_iff.mp (hsets _ (List.mem_of_getElem? (i := 1) rfl)))
  have S_cs : Sta s s.heap "java/lang/String" "COMPACT_STRINGS" "Z" (.int cs) := Sta.start evcs (Or.inl (hsets _ (List.mem_of_getElem? (i := 0) rfl)))
  have hcs : ¬ cs = (0 : Int32) := gotF (Cond.eq_ints evcs (Term.int_eval 0)) (not_v (Cond.before_iff.mp (hsets _ (List.mem_of_getElem? (i := 2) rfl))))
  obtain ⟨vF, evF, rF⟩ := isR_v (Cond.before_iff.mp (hsets _ (List.mem_of_getElem? (i := 8) rfl)))
  have S_F : Sta s s.heap "jdk/internal/util/Preconditions" "SIOOBE_FORMATTER" "Ljava/util/function/BiFunction;" vF := Sta.start evF (Or.inl (hsets _ (List.mem_of_getElem? (i := 7) rfl)))
  have T_SF : own_SF s := ⟨vF, S_F, ref_cases rF⟩
  obtain ⟨wD, evD⟩ := exa_v (Cond.before_iff.mp (hsets _ (List.mem_of_getElem? (i := 16) rfl)))
  obtain ⟨clD, AD⟩ := Arr.start evD (Cond.before_iff.mp (hsets _ (List.mem_of_getElem? (i := 15) rfl)))
  obtain ⟨qD, eD⟩ := own_size evD AD (Cond.before_iff.mp (hsets _ (List.mem_of_getElem? (i := 17) rfl)))
  have S_D : Sta s s.heap "java/util/ArrayList" "DEFAULTCAPACITY_EMPTY_ELEMENTDATA" "[Ljava/lang/Object;" (.ref wD) := Sta.start evD (Or.inr ⟨(W hw 46 rfl), (hsets _ (List.mem_of_getElem? (i := 11) rfl))⟩)
  have E_D : Exa s s.heap wD "[Ljava/lang/Object;" := Exa.start evD (Cond.before_iff.mp (hsets _ (List.mem_of_getElem? (i := 16) rfl)))
  have V_D : Arv s s.heap wD clD.cls (.object "java/lang/Object") (0 : Int32) [] .null := Arv.start hfit AD qD eD (by decide) rfl trivial
  have hCH0 : own_CH s own_EL s.heap.size s.vm s.heap := ⟨CHv.start (own_EW hw) (fun p hp => hcalls.1 p (own_sub p hp)) (hsets _ (List.mem_of_getElem? (i := 2) rfl)) (W hw 19 rfl) (W hw 1 rfl), fun x hx => Safe.new hx⟩
  obtain ⟨n, o, h1, h2, h3, _, L, rfl, ⟨rfl, N⟩, hq⟩ := rm0 l s _ hw tables_1 i0 i1 i2 i3 cs wD clD.cls s.heap s.heap.size (Old.start s) T_SF S_cs hcs S_D E_D V_D p e ha hc hk s m _ below hf ((Spec.applies_iff_loose hf).mp happ).1 ⟨rfl, State.Warmed39.refl s, rfl, hCH0⟩ trivial
  refine ⟨n, _, h1, h2, h3, hpost _ _ _ _ _ _ ⟨Cond.after_iff.mpr rfl, Cond.after_iff.mpr (eq_i res_at (Term.int_eval (1)) rfl), trivial⟩ ⟨hq.1, hq.2.1, hq.2.2.1, (hq.2.2.2.sift fun y hy => Or.inr (N y hy)).mono (by decide) (by decide)⟩⟩
theorem main_1_1 : Claimed_1_1 := comes_1 fun _ _ _ _ _ _ h hF => ⟨h.1, hF⟩
theorem main_1_2 : Claimed_1_2 := comes_1 fun _ _ _ _ _ _ h hF => ⟨h.2.1, hF⟩
end Jvm.Pilot.@@N@@
namespace Jvm.Pilot.@@N@@
open Jvm Jvm.ClassFile Sem Op Lib Jvm.Free Jvm.Stand Jvm.Pilot.@@N@@.Jvm.D
/-! MADE BY PROGRAM (witnessworld.py) out of the Statement's table words and the real class files: 31 classes; the members and pool entries that the words name. The judged class is class 1, her method 1. -/
namespace start1
open Jvm.ClassFile
def u (s : String) : CpInfo := .utf8 (stringToUtf16 s)
/-- a pool by its gaps: so many unusable entries, then the entry; so many at the end -/
def gap : Nat → List CpInfo → List CpInfo
  | 0, r => r
  | n + 1, r => .unusable :: gap n r
def poolList (es : List (Nat × CpInfo)) (last : Nat) : List CpInfo := es.foldr (fun e r => gap e.1 (e.2 :: r)) (gap last [])
def pool (es : List (Nat × CpInfo)) (last : Nat) : Array CpInfo := ⟨poolList es last⟩
def fileOf (pool : Array CpInfo) (this : Nat) (attrs : Array Attribute := #[]) (ms : Array MethodInfo := #[]) (fl : Nat := 33) (sup : Nat := 0) (ifs : Array Nat := #[]) (fds : Array FieldInfo := #[]) : ClassFile where
  minorVersion := 0
  majorVersion := 65
  constantPool := pool
  accessFlags := fl
  thisClass := this
  superClass := sup
  interfaces := ifs
  fields := fds
  methods := ms
  attributes := attrs
def plain (name : String) (sup : Option ClassId) : Class where
  name := name
  kind := .ordinary
  loader := none
  accessFlags := 33
  super := sup
  interfaces := #[]
  cf := none
  fields := #[]
  methods := #[]
  instanceTypes := #[]
  staticTypes := #[]
  resolved := #[]
  callSites := []
  init := .initialized
  statics := none
  mirror := none

def pool0 : Array CpInfo := pool [(5, u "<init>"), (0, u "()V"), (1, .class_ 10), (1, u "java/lang/Object")] 113

def k0c0 : Code := { maxStack := 0, maxLocals := 1, code := object_method_1_code, exceptionTable := #[], attributes := #[] }
def k0m0 : Method := { name := "<init>", desc := "()V", sig := { parameters := [], returnType := none }, accessFlags := 1, code := some k0c0 }
/-- java/lang/Object -/
def k0 : Class := { plain "java/lang/Object" none with
  accessFlags := 33
  interfaces := #[]
  cf := some (fileOf pool0 8 #[] #[{ accessFlags := 1, nameIndex := 5, descriptorIndex := 6, attributes := #[] }] 33 0 #[] #[])
  fields := #[]
  methods := #[k0m0]
  instanceTypes := #[]
  staticTypes := #[]
  resolved := Array.replicate 124 none
  statics := none }

def pool1 : Array CpInfo := pool [(2, .class_ 4), (0, .nameAndType 5 6), (0, u "java/lang/Object"), (0, u "<init>"), (0, u "()V"), (0, .class_ 8), (0, u "java/lang/String"), (0, .methodref 7 10), (0, .nameAndType 5 11), (0, u "([C)V"), (0, .methodref 7 13), (0, .nameAndType 14 15), (0, u "valueOf"), (0, u "(C)Ljava/lang/String;"), (0, .class_ 17), (0, u "java/util/ArrayList"), (0, .methodref 16 3), (0, .methodref 16 20), (0, .nameAndType 21 22), (0, u "add"), (0, u "(Ljava/lang/Object;)Z"), (0, .class_ 24), (0, u "com/example/runqueue/runqueue/Arguments"), (0, .methodref 23 26), (0, .nameAndType 5 27), (0, u "(Ljava/util/List;)V"), (0, .methodref 23 29), (0, .nameAndType 30 31), (0, u "nextOption"), (0, u "()Ljava/lang/String;"), (0, .methodref 23 33), (0, .nameAndType 34 35), (0, u "flag"), (0, u "()Z"), (0, .string 37), (0, u "X"), (0, .methodref 23 39), (0, .nameAndType 40 41), (0, u "lastOperand"), (0, u "(Ljava/lang/String;)Ljava/lang/String;"), (0, .methodref 7 43), (0, .nameAndType 44 22), (0, u "equals"), (0, .class_ 46), (0, u "com/example/runqueue/runqueue/ArgumentsFlagPinLaw"), (2, u "law"), (0, u "(IIII)Z")] 6

def k1m0 : Method := { name := "<init>", desc := "()V", sig := { parameters := [], returnType := none }, accessFlags := 1, code := none }
def k1c1 : Code := { maxStack := 6, maxLocals := 18, code := code, exceptionTable := #[], attributes := #[] }
def k1m1 : Method := { name := "law", desc := "(IIII)Z", sig := { parameters := [.int, .int, .int, .int], returnType := some .boolean }, accessFlags := 9, code := some k1c1 }
/-- com/example/runqueue/runqueue/ArgumentsFlagPinLaw -/
def k1 : Class := { plain "com/example/runqueue/runqueue/ArgumentsFlagPinLaw" (some 0) with
  accessFlags := 49
  interfaces := #[]
  cf := some (fileOf pool1 45 #[] #[{ accessFlags := 1, nameIndex := 5, descriptorIndex := 6, attributes := #[] }, { accessFlags := 9, nameIndex := 49, descriptorIndex := 50, attributes := #[] }] 49 2 #[] #[])
  fields := #[]
  methods := #[k1m0, k1m1]
  instanceTypes := #[]
  staticTypes := #[]
  resolved := Array.replicate 57 none
  statics := none }

def pool2 : Array CpInfo := pool [(1, .class_ 2), (0, u "java/io/Serializable"), (0, .class_ 4), (0, u "java/lang/Object")] 2

/-- java/io/Serializable -/
def k2 : Class := { plain "java/io/Serializable" (some 0) with
  accessFlags := 1537
  interfaces := #[]
  cf := some (fileOf pool2 1 #[] #[] 1537 3 #[] #[])
  fields := #[]
  methods := #[]
  instanceTypes := #[]
  staticTypes := #[]
  resolved := Array.replicate 7 none
  statics := none }

def pool3 : Array CpInfo := pool [(1, .class_ 2), (0, u "java/lang/Comparable"), (0, .class_ 4), (0, u "java/lang/Object")] 7

/-- java/lang/Comparable -/
def k3 : Class := { plain "java/lang/Comparable" (some 0) with
  accessFlags := 1537
  interfaces := #[]
  cf := some (fileOf pool3 1 #[] #[] 1537 3 #[] #[])
  fields := #[]
  methods := #[]
  instanceTypes := #[]
  staticTypes := #[]
  resolved := Array.replicate 12 none
  statics := none }

def pool4 : Array CpInfo := pool [(2, .class_ 4), (1, u "java/lang/CharSequence"), (42, .class_ 48), (0, u "java/lang/CharSequence$1CodePointIterator"), (10, .class_ 60), (0, u "java/lang/CharSequence$1CharIterator"), (5, .class_ 67), (0, u "java/lang/Object")] 63

/-- java/lang/CharSequence -/
def k4 : Class := { plain "java/lang/CharSequence" (some 0) with
  accessFlags := 1537
  interfaces := #[]
  cf := some (fileOf pool4 2 #[.nestMembers #[47, 59]] #[] 1537 66 #[] #[])
  fields := #[]
  methods := #[]
  instanceTypes := #[]
  staticTypes := #[]
  resolved := Array.replicate 131 none
  statics := none }

def pool5 : Array CpInfo := pool [(1, .class_ 2), (0, u "java/lang/constant/Constable"), (0, .class_ 4), (0, u "java/lang/Object")] 6

/-- java/lang/constant/Constable -/
def k5 : Class := { plain "java/lang/constant/Constable" (some 0) with
  accessFlags := 1537
  interfaces := #[]
  cf := some (fileOf pool5 1 #[] #[] 1537 3 #[] #[])
  fields := #[]
  methods := #[]
  instanceTypes := #[]
  staticTypes := #[]
  resolved := Array.replicate 11 none
  statics := none }

def pool6 : Array CpInfo := pool [(1, .class_ 2), (0, u "java/lang/constant/ConstantDesc"), (0, .class_ 4), (0, u "java/lang/Object")] 32

/-- java/lang/constant/ConstantDesc -/
def k6 : Class := { plain "java/lang/constant/ConstantDesc" (some 0) with
  accessFlags := 1537
  interfaces := #[]
  cf := some (fileOf pool6 1 #[] #[] 1537 3 #[] #[])
  fields := #[]
  methods := #[]
  instanceTypes := #[]
  staticTypes := #[]
  resolved := Array.replicate 37 none
  statics := none }

def pool7 : Array CpInfo := pool [(1, .methodref 2 3), (0, .class_ 4), (0, .nameAndType 5 6), (0, u "java/lang/Object"), (0, u "<init>"), (0, u "()V"), (2, .fieldref 10 11), (0, .class_ 12), (0, .nameAndType 13 14), (0, u "java/lang/String"), (0, u "value"), (0, u "[B"), (0, .fieldref 10 16), (0, .nameAndType 17 18), (0, u "coder"), (0, u "B"), (2, u "hash"), (0, u "I"), (2, u "hashIsZero"), (0, u "Z"), (0, .methodref 10 28), (0, .nameAndType 5 29), (0, u "([CIILjava/lang/Void;)V"), (8, .fieldref 10 39), (0, .nameAndType 40 26), (0, u "COMPACT_STRINGS"), (1, .class_ 44), (1, u "java/lang/StringUTF16"), (0, u "compress"), (1, .methodref 42 48), (0, .nameAndType 49 50), (0, u "coderFromArrayLen"), (0, u "([BI)B"), (2, u "toBytes"), (53, .class_ 109), (1, u "java/lang/StringLatin1"), (32, u "()Z"), (34, .methodref 42 178), (0, .nameAndType 45 179), (0, u "([CII)[B"), (29, .methodref 10 210), (0, .nameAndType 5 211), (0, u "([BB)V"), (122, u "()I"), (0, .methodref 10 336), (0, .nameAndType 17 337), (0, u "()B"), (31, u "(C)Z"), (6, u "([BI[BII)I"), (115, .methodref 10 493), (0, .nameAndType 494 142), (0, u "isLatin1"), (10, .methodref 10 506), (0, .nameAndType 507 334), (0, u "length"), (5, u "checkFromToIndex"), (7, .methodref 10 522), (0, .nameAndType 523 524), (0, u "checkBoundsBeginEnd"), (0, u "(III)V"), (16, .methodref 107 542), (0, .nameAndType 543 544), (0, u "equals"), (0, u "([B[B)Z"), (14, .class_ 561), (1, u "jdk/internal/util/ArraysSupport"), (0, u "mismatch"), (10, u "(Ljava/lang/Object;)Z"), (1, .class_ 576), (0, u "java/lang/CharSequence"), (22, u "CASE_INSENSITIVE_ORDER"), (0, u "Ljava/util/Comparator;"), (6, .methodref 559 608), (0, .nameAndType 562 376), (15, .methodref 10 625), (0, .nameAndType 626 627), (0, u "startsWith"), (0, u "(Ljava/lang/String;I)Z"), (5, .methodref 10 634), (0, .nameAndType 635 636), (0, u "indexOf"), (0, u "(II)I"), (0, .methodref 107 638), (0, .nameAndType 635 639), (0, u "([BIII)I"), (43, u "substring"), (0, u "(II)Ljava/lang/String;"), (80, u "(I)I"), (16, u "valueOf"), (0, u "(C)Ljava/lang/String;"), (226, u "([C)V"), (4, .methodref 107 1016), (0, .nameAndType 1017 369), (0, u "canEncode"), (0, .methodref 107 1019), (0, .nameAndType 53 1020), (0, u "(C)[B"), (32, .fieldref 1054 1055), (0, .class_ 1056), (0, .nameAndType 1057 1058), (0, u "jdk/internal/util/Preconditions"), (0, u "SIOOBE_FORMATTER"), (0, u "Ljava/util/function/BiFunction;"), (3, .methodref 1054 1063), (0, .nameAndType 513 1064), (0, u "(IIILjava/util/function/BiFunction;)I"), (36, u "serialPersistentFields"), (0, u "[Ljava/io/ObjectStreamField;"), (0, .class_ 1104), (0, u "java/lang/String$CaseInsensitiveComparator"), (1, .class_ 1107), (0, u "java/io/Serializable"), (0, .class_ 1109), (0, u "java/lang/Comparable"), (0, .class_ 1111), (0, u "java/lang/constant/Constable"), (0, .class_ 1113), (0, u "java/lang/constant/ConstantDesc"), (2, u "serialVersionUID"), (0, u "J"), (3, u "REPL"), (0, u "C"), (2, u "LATIN1"), (1, u "UTF16"), (129, u "(Ljava/lang/String;)Z")] 193

def k7m0 : Method := { name := "<init>", desc := "()V", sig := { parameters := [], returnType := none }, accessFlags := 1, code := none }
def k7c1 : Code := { maxStack := 5, maxLocals := 2, code := jdk_42_method_3_code, exceptionTable := #[], attributes := #[] }
def k7m1 : Method := { name := "<init>", desc := "([C)V", sig := { parameters := [(.array .char)], returnType := none }, accessFlags := 1, code := some k7c1 }
def k7c2 : Code := { maxStack := 2, maxLocals := 1, code := jdk_42_method_54_code, exceptionTable := #[], attributes := #[] }
def k7m2 : Method := { name := "length", desc := "()I", sig := { parameters := [], returnType := some .int }, accessFlags := 1, code := some k7c2 }
def k7c3 : Code := { maxStack := 2, maxLocals := 3, code := jdk_42_method_66_code, exceptionTable := #[], attributes := #[] }
def k7m3 : Method := { name := "equals", desc := "(Ljava/lang/Object;)Z", sig := { parameters := [(.object "java/lang/Object")], returnType := some .boolean }, accessFlags := 1, code := some k7c3 }
def k7c4 : Code := { maxStack := 5, maxLocals := 8, code := jdk_42_method_75_code, exceptionTable := #[], attributes := #[] }
def k7m4 : Method := { name := "startsWith", desc := "(Ljava/lang/String;I)Z", sig := { parameters := [(.object "java/lang/String"), .int], returnType := some .boolean }, accessFlags := 1, code := some k7c4 }
def k7c5 : Code := { maxStack := 3, maxLocals := 2, code := jdk_42_method_76_code, exceptionTable := #[], attributes := #[] }
def k7m5 : Method := { name := "startsWith", desc := "(Ljava/lang/String;)Z", sig := { parameters := [(.object "java/lang/String")], returnType := some .boolean }, accessFlags := 1, code := some k7c5 }
def k7c6 : Code := { maxStack := 3, maxLocals := 2, code := jdk_42_method_79_code, exceptionTable := #[], attributes := #[] }
def k7m6 : Method := { name := "indexOf", desc := "(I)I", sig := { parameters := [.int], returnType := some .int }, accessFlags := 1, code := some k7c6 }
def k7c7 : Code := { maxStack := 4, maxLocals := 3, code := jdk_42_method_80_code, exceptionTable := #[], attributes := #[] }
def k7m7 : Method := { name := "indexOf", desc := "(II)I", sig := { parameters := [.int, .int], returnType := some .int }, accessFlags := 1, code := some k7c7 }
def k7c8 : Code := { maxStack := 3, maxLocals := 5, code := jdk_42_method_92_code, exceptionTable := #[], attributes := #[] }
def k7m8 : Method := { name := "substring", desc := "(II)Ljava/lang/String;", sig := { parameters := [.int, .int], returnType := some (.object "java/lang/String") }, accessFlags := 1, code := some k7c8 }
def k7c9 : Code := { maxStack := 4, maxLocals := 1, code := jdk_42_method_139_code, exceptionTable := #[], attributes := #[] }
def k7m9 : Method := { name := "valueOf", desc := "(C)Ljava/lang/String;", sig := { parameters := [.char], returnType := some (.object "java/lang/String") }, accessFlags := 9, code := some k7c9 }
def k7c10 : Code := { maxStack := 4, maxLocals := 6, code := jdk_42_method_149_code, exceptionTable := #[], attributes := #[] }
def k7m10 : Method := { name := "<init>", desc := "([CIILjava/lang/Void;)V", sig := { parameters := [(.array .char), .int, .int, (.object "java/lang/Void")], returnType := none }, accessFlags := 2, code := some k7c10 }
def k7c11 : Code := { maxStack := 2, maxLocals := 3, code := jdk_42_method_151_code, exceptionTable := #[], attributes := #[] }
def k7m11 : Method := { name := "<init>", desc := "([BB)V", sig := { parameters := [(.array .byte), .byte], returnType := none }, accessFlags := 0, code := some k7c11 }
def k7c12 : Code := { maxStack := 1, maxLocals := 1, code := jdk_42_method_152_code, exceptionTable := #[], attributes := #[] }
def k7m12 : Method := { name := "coder", desc := "()B", sig := { parameters := [], returnType := some .byte }, accessFlags := 0, code := some k7c12 }
def k7c13 : Code := { maxStack := 1, maxLocals := 1, code := jdk_42_method_154_code, exceptionTable := #[], attributes := #[] }
def k7m13 : Method := { name := "isLatin1", desc := "()Z", sig := { parameters := [], returnType := some .boolean }, accessFlags := 0, code := some k7c13 }
def k7c14 : Code := { maxStack := 4, maxLocals := 3, code := jdk_42_method_158_code, exceptionTable := #[], attributes := #[] }
def k7m14 : Method := { name := "checkBoundsBeginEnd", desc := "(III)V", sig := { parameters := [.int, .int, .int], returnType := none }, accessFlags := 8, code := some k7c14 }
/-- java/lang/String -/
def k7 : Class := { plain "java/lang/String" (some 0) with
  accessFlags := 49
  interfaces := #[2, 3, 4, 5, 6]
  cf := some (fileOf pool7 10 #[.nestMembers #[1103]] #[{ accessFlags := 1, nameIndex := 5, descriptorIndex := 6, attributes := #[] }, { accessFlags := 1, nameIndex := 5, descriptorIndex := 1010, attributes := #[] }, { accessFlags := 1, nameIndex := 507, descriptorIndex := 334, attributes := #[] }, { accessFlags := 1, nameIndex := 543, descriptorIndex := 573, attributes := #[] }, { accessFlags := 1, nameIndex := 626, descriptorIndex := 627, attributes := #[] }, { accessFlags := 1, nameIndex := 626, descriptorIndex := 1257, attributes := #[] }, { accessFlags := 1, nameIndex := 635, descriptorIndex := 765, attributes := #[] }, { accessFlags := 1, nameIndex := 635, descriptorIndex := 636, attributes := #[] }, { accessFlags := 1, nameIndex := 683, descriptorIndex := 684, attributes := #[] }, { accessFlags := 9, nameIndex := 782, descriptorIndex := 783, attributes := #[] }, { accessFlags := 2, nameIndex := 5, descriptorIndex := 29, attributes := #[] }, { accessFlags := 0, nameIndex := 5, descriptorIndex := 211, attributes := #[] }, { accessFlags := 0, nameIndex := 17, descriptorIndex := 337, attributes := #[] }, { accessFlags := 0, nameIndex := 494, descriptorIndex := 142, attributes := #[] }, { accessFlags := 8, nameIndex := 523, descriptorIndex := 524, attributes := #[] }] 49 2 #[1106, 1108, 575, 1110, 1112] #[{ accessFlags := 18, nameIndex := 13, descriptorIndex := 14, attributes := #[] }, { accessFlags := 18, nameIndex := 17, descriptorIndex := 18, attributes := #[] }, { accessFlags := 2, nameIndex := 21, descriptorIndex := 22, attributes := #[] }, { accessFlags := 2, nameIndex := 25, descriptorIndex := 26, attributes := #[] }, { accessFlags := 26, nameIndex := 1116, descriptorIndex := 1117, attributes := #[] }, { accessFlags := 24, nameIndex := 40, descriptorIndex := 26, attributes := #[] }, { accessFlags := 26, nameIndex := 1101, descriptorIndex := 1102, attributes := #[] }, { accessFlags := 26, nameIndex := 1121, descriptorIndex := 1122, attributes := #[] }, { accessFlags := 25, nameIndex := 599, descriptorIndex := 600, attributes := #[] }, { accessFlags := 24, nameIndex := 1125, descriptorIndex := 18, attributes := #[] }, { accessFlags := 24, nameIndex := 1127, descriptorIndex := 18, attributes := #[] }])
  fields := #[{ name := "value", type := (.array .byte), accessFlags := 18, slot := 0, constantValue := 0 }, { name := "coder", type := .byte, accessFlags := 18, slot := 1, constantValue := 0 }, { name := "hash", type := .int, accessFlags := 2, slot := 2, constantValue := 0 }, { name := "hashIsZero", type := .boolean, accessFlags := 2, slot := 3, constantValue := 0 }, { name := "serialVersionUID", type := .long, accessFlags := 26, slot := 0, constantValue := 0 }, { name := "COMPACT_STRINGS", type := .boolean, accessFlags := 24, slot := 1, constantValue := 0 }, { name := "serialPersistentFields", type := (.array (.object "java/io/ObjectStreamField")), accessFlags := 26, slot := 2, constantValue := 0 }, { name := "REPL", type := .char, accessFlags := 26, slot := 3, constantValue := 0 }, { name := "CASE_INSENSITIVE_ORDER", type := (.object "java/util/Comparator"), accessFlags := 25, slot := 4, constantValue := 0 }, { name := "LATIN1", type := .byte, accessFlags := 24, slot := 5, constantValue := 0 }, { name := "UTF16", type := .byte, accessFlags := 24, slot := 6, constantValue := 0 }]
  methods := #[k7m0, k7m1, k7m2, k7m3, k7m4, k7m5, k7m6, k7m7, k7m8, k7m9, k7m10, k7m11, k7m12, k7m13, k7m14]
  instanceTypes := #[(.array .byte), .byte, .int, .boolean]
  staticTypes := #[.long, .boolean, (.array (.object "java/io/ObjectStreamField")), .char, (.object "java/util/Comparator"), .byte, .byte]
  resolved := Array.replicate 1451 none
  statics := some 0 }

def pool8 : Array CpInfo := pool [(6, .class_ 8), (1, u "java/lang/Object"), (0, u "<init>"), (0, u "()V"), (1, .class_ 14), (1, u "java/lang/StringUTF16"), (31, u "$assertionsDisabled"), (0, u "Z"), (13, u "HI_BYTE_SHIFT"), (0, u "I"), (2, u "LO_BYTE_SHIFT"), (49, .methodref 12 116), (0, .nameAndType 117 118), (0, u "compress"), (0, u "([CI[BII)I"), (3, u "([CII)[B"), (138, u "coderFromArrayLen"), (0, u "([BI)B"), (106, .class_ 371), (1, u "java/lang/StringUTF16$LinesSpliterator"), (58, u "MAX_LENGTH"), (196, .class_ 628), (0, u "java/lang/StringUTF16$CodePointsSpliterator"), (0, .class_ 630), (0, u "java/lang/StringUTF16$CharsSpliterator")] 4

def k8m0 : Method := { name := "<init>", desc := "()V", sig := { parameters := [], returnType := none }, accessFlags := 0, code := none }
def k8c1 : Code := { maxStack := 2, maxLocals := 2, code := jdk_52_method_15_code, exceptionTable := #[], attributes := #[] }
def k8m1 : Method := { name := "coderFromArrayLen", desc := "([BI)B", sig := { parameters := [(.array .byte), .int], returnType := some .byte }, accessFlags := 8, code := some k8c1 }
def k8c2 : Code := { maxStack := 5, maxLocals := 6, code := jdk_52_method_16_code, exceptionTable := #[], attributes := #[] }
def k8m2 : Method := { name := "compress", desc := "([CII)[B", sig := { parameters := [(.array .char), .int, .int], returnType := some (.array .byte) }, accessFlags := 9, code := some k8c2 }
def k8c3 : Code := { maxStack := 3, maxLocals := 7, code := jdk_52_method_21_code, exceptionTable := #[], attributes := #[] }
def k8m3 : Method := { name := "compress", desc := "([CI[BII)I", sig := { parameters := [(.array .char), .int, (.array .byte), .int, .int], returnType := some .int }, accessFlags := 9, code := some k8c3 }
/-- java/lang/StringUTF16 -/
def k8 : Class := { plain "java/lang/StringUTF16" (some 0) with
  accessFlags := 48
  interfaces := #[]
  cf := some (fileOf pool8 12 #[.nestMembers #[627, 629, 369]] #[{ accessFlags := 0, nameIndex := 9, descriptorIndex := 10, attributes := #[] }, { accessFlags := 8, nameIndex := 261, descriptorIndex := 262, attributes := #[] }, { accessFlags := 9, nameIndex := 117, descriptorIndex := 122, attributes := #[] }, { accessFlags := 9, nameIndex := 117, descriptorIndex := 118, attributes := #[] }] 48 6 #[] #[{ accessFlags := 26, nameIndex := 61, descriptorIndex := 62, attributes := #[] }, { accessFlags := 26, nameIndex := 65, descriptorIndex := 62, attributes := #[] }, { accessFlags := 24, nameIndex := 430, descriptorIndex := 62, attributes := #[] }, { accessFlags := 4120, nameIndex := 46, descriptorIndex := 47, attributes := #[] }])
  fields := #[{ name := "HI_BYTE_SHIFT", type := .int, accessFlags := 26, slot := 0, constantValue := 0 }, { name := "LO_BYTE_SHIFT", type := .int, accessFlags := 26, slot := 1, constantValue := 0 }, { name := "MAX_LENGTH", type := .int, accessFlags := 24, slot := 2, constantValue := 0 }, { name := "$assertionsDisabled", type := .boolean, accessFlags := 4120, slot := 3, constantValue := 0 }]
  methods := #[k8m0, k8m1, k8m2, k8m3]
  instanceTypes := #[]
  staticTypes := #[.int, .int, .int, .boolean]
  resolved := Array.replicate 635 none
  statics := none }

def pool9 : Array CpInfo := pool [(4, .class_ 6), (1, u "java/lang/Object"), (0, u "<init>"), (0, u "()V"), (5, .class_ 16), (1, u "java/lang/StringLatin1"), (21, .methodref 39 40), (0, .class_ 41), (0, .nameAndType 42 43), (0, u "java/lang/Math"), (0, u "min"), (0, u "(II)I"), (44, .methodref 14 89), (0, .nameAndType 90 91), (0, u "canEncode"), (0, u "(I)Z"), (0, .methodref 39 93), (0, .nameAndType 94 43), (0, u "max"), (0, .methodref 14 96), (0, .nameAndType 97 98), (0, u "indexOfChar"), (0, u "([BIII)I"), (2, u "indexOf"), (3, u "(C)Z"), (15, u "$assertionsDisabled"), (0, u "Z"), (98, .class_ 223), (1, u "java/lang/StringLatin1$LinesSpliterator"), (57, u "equals"), (0, u "([B[B)Z"), (97, u "toBytes"), (1, u "(C)[B"), (7, .class_ 391), (0, u "java/lang/StringLatin1$CharsSpliterator")] 3

def k9m0 : Method := { name := "<init>", desc := "()V", sig := { parameters := [], returnType := none }, accessFlags := 0, code := none }
def k9c1 : Code := { maxStack := 2, maxLocals := 1, code := jdk_43_method_3_code, exceptionTable := #[], attributes := #[] }
def k9m1 : Method := { name := "canEncode", desc := "(C)Z", sig := { parameters := [.char], returnType := some .boolean }, accessFlags := 9, code := some k9c1 }
def k9c2 : Code := { maxStack := 2, maxLocals := 1, code := jdk_43_method_4_code, exceptionTable := #[], attributes := #[] }
def k9m2 : Method := { name := "canEncode", desc := "(I)Z", sig := { parameters := [.int], returnType := some .boolean }, accessFlags := 9, code := some k9c2 }
def k9c3 : Code := { maxStack := 3, maxLocals := 3, code := jdk_43_method_13_code, exceptionTable := #[], attributes := #[] }
def k9m3 : Method := { name := "equals", desc := "([B[B)Z", sig := { parameters := [(.array .byte), (.array .byte)], returnType := some .boolean }, accessFlags := 9, code := some k9c3 }
def k9c4 : Code := { maxStack := 4, maxLocals := 4, code := jdk_43_method_22_code, exceptionTable := #[], attributes := #[] }
def k9m4 : Method := { name := "indexOf", desc := "([BIII)I", sig := { parameters := [(.array .byte), .int, .int, .int], returnType := some .int }, accessFlags := 9, code := some k9c4 }
def k9c5 : Code := { maxStack := 2, maxLocals := 6, code := jdk_43_method_23_code, exceptionTable := #[], attributes := #[] }
def k9m5 : Method := { name := "indexOfChar", desc := "([BIII)I", sig := { parameters := [(.array .byte), .int, .int, .int], returnType := some .int }, accessFlags := 10, code := some k9c5 }
def k9c6 : Code := { maxStack := 4, maxLocals := 1, code := jdk_43_method_46_code, exceptionTable := #[], attributes := #[] }
def k9m6 : Method := { name := "toBytes", desc := "(C)[B", sig := { parameters := [.char], returnType := some (.array .byte) }, accessFlags := 9, code := some k9c6 }
/-- java/lang/StringLatin1 -/
def k9 : Class := { plain "java/lang/StringLatin1" (some 0) with
  accessFlags := 48
  interfaces := #[]
  cf := some (fileOf pool9 14 #[.nestMembers #[390, 221]] #[{ accessFlags := 0, nameIndex := 7, descriptorIndex := 8, attributes := #[] }, { accessFlags := 9, nameIndex := 90, descriptorIndex := 105, attributes := #[] }, { accessFlags := 9, nameIndex := 90, descriptorIndex := 91, attributes := #[] }, { accessFlags := 9, nameIndex := 281, descriptorIndex := 282, attributes := #[] }, { accessFlags := 9, nameIndex := 101, descriptorIndex := 98, attributes := #[] }, { accessFlags := 10, nameIndex := 97, descriptorIndex := 98, attributes := #[] }, { accessFlags := 9, nameIndex := 380, descriptorIndex := 382, attributes := #[] }] 48 4 #[] #[{ accessFlags := 4120, nameIndex := 121, descriptorIndex := 122, attributes := #[] }])
  fields := #[{ name := "$assertionsDisabled", type := .boolean, accessFlags := 4120, slot := 0, constantValue := 0 }]
  methods := #[k9m0, k9m1, k9m2, k9m3, k9m4, k9m5, k9m6]
  instanceTypes := #[]
  staticTypes := #[.boolean]
  resolved := Array.replicate 395 none
  statics := none }

def pool10 : Array CpInfo := pool [(8, .class_ 10), (1, u "java/lang/Iterable"), (24, .class_ 36), (0, u "java/lang/Object")] 25

/-- java/lang/Iterable -/
def k10 : Class := { plain "java/lang/Iterable" (some 0) with
  accessFlags := 1537
  interfaces := #[]
  cf := some (fileOf pool10 8 #[] #[] 1537 35 #[] #[])
  fields := #[]
  methods := #[]
  instanceTypes := #[]
  staticTypes := #[]
  resolved := Array.replicate 62 none
  statics := none }

def pool11 : Array CpInfo := pool [(10, .class_ 12), (1, u "java/util/Collection"), (47, .class_ 61), (0, u "java/lang/Object"), (0, .class_ 63), (0, u "java/lang/Iterable")] 51

/-- java/util/Collection -/
def k11 : Class := { plain "java/util/Collection" (some 0) with
  accessFlags := 1537
  interfaces := #[10]
  cf := some (fileOf pool11 10 #[] #[] 1537 60 #[62] #[])
  fields := #[]
  methods := #[]
  instanceTypes := #[]
  staticTypes := #[]
  resolved := Array.replicate 115 none
  statics := none }

def pool12 : Array CpInfo := pool [(1, .methodref 2 3), (0, .class_ 4), (0, .nameAndType 5 6), (0, u "java/lang/Object"), (0, u "<init>"), (0, u "()V"), (1, .class_ 10), (1, u "java/util/AbstractCollection"), (66, .class_ 78), (0, u "java/util/Collection")] 81

def k12c0 : Code := { maxStack := 1, maxLocals := 1, code := jdk_22_method_1_code, exceptionTable := #[], attributes := #[] }
def k12m0 : Method := { name := "<init>", desc := "()V", sig := { parameters := [], returnType := none }, accessFlags := 4, code := some k12c0 }
/-- java/util/AbstractCollection -/
def k12 : Class := { plain "java/util/AbstractCollection" (some 0) with
  accessFlags := 1057
  interfaces := #[11]
  cf := some (fileOf pool12 8 #[] #[{ accessFlags := 4, nameIndex := 5, descriptorIndex := 6, attributes := #[] }] 1057 2 #[77] #[])
  fields := #[]
  methods := #[k12m0]
  instanceTypes := #[]
  staticTypes := #[]
  resolved := Array.replicate 160 none
  statics := none }

def pool13 : Array CpInfo := pool [(8, .class_ 10), (1, u "java/util/SequencedCollection"), (15, .class_ 27), (0, u "java/lang/Object"), (0, .class_ 29), (0, u "java/util/Collection")] 27

/-- java/util/SequencedCollection -/
def k13 : Class := { plain "java/util/SequencedCollection" (some 0) with
  accessFlags := 1537
  interfaces := #[11]
  cf := some (fileOf pool13 8 #[] #[] 1537 26 #[28] #[])
  fields := #[]
  methods := #[]
  instanceTypes := #[]
  staticTypes := #[]
  resolved := Array.replicate 57 none
  statics := none }

def pool14 : Array CpInfo := pool [(8, .class_ 10), (1, u "java/util/List"), (64, u "get"), (0, u "(I)Ljava/lang/Object;"), (2, u "size"), (0, u "()I"), (22, .class_ 104), (0, u "java/lang/Object"), (15, .class_ 121), (0, u "java/util/SequencedCollection")] 129

def k14m0 : Method := { name := "size", desc := "()I", sig := { parameters := [], returnType := some .int }, accessFlags := 1025, code := none }
def k14m1 : Method := { name := "get", desc := "(I)Ljava/lang/Object;", sig := { parameters := [.int], returnType := some (.object "java/lang/Object") }, accessFlags := 1025, code := none }
/-- java/util/List -/
def k14 : Class := { plain "java/util/List" (some 0) with
  accessFlags := 1537
  interfaces := #[13]
  cf := some (fileOf pool14 8 #[] #[{ accessFlags := 1025, nameIndex := 79, descriptorIndex := 80, attributes := #[] }, { accessFlags := 1025, nameIndex := 75, descriptorIndex := 76, attributes := #[] }] 1537 103 #[120] #[])
  fields := #[]
  methods := #[k14m0, k14m1]
  instanceTypes := #[]
  staticTypes := #[]
  resolved := Array.replicate 251 none
  statics := none }

def pool15 : Array CpInfo := pool [(1, .methodref 2 3), (0, .class_ 4), (0, .nameAndType 5 6), (0, u "java/util/AbstractCollection"), (0, u "<init>"), (0, u "()V"), (0, .fieldref 8 9), (0, .class_ 10), (0, .nameAndType 11 12), (0, u "java/util/AbstractList"), (0, u "modCount"), (0, u "I"), (64, .class_ 78), (0, u "java/util/AbstractList$Itr"), (3, .class_ 83), (0, u "java/util/AbstractList$ListItr"), (9, .class_ 94), (0, u "java/util/AbstractList$RandomAccessSubList"), (3, .class_ 99), (0, u "java/util/AbstractList$SubList"), (33, .class_ 134), (0, u "java/util/List"), (73, .class_ 209), (0, u "java/util/AbstractList$SubList$1"), (0, .class_ 211), (0, u "java/util/AbstractList$RandomAccessSpliterator")] 6

def k15c0 : Code := { maxStack := 2, maxLocals := 1, code := jdk_39_method_1_code, exceptionTable := #[], attributes := #[] }
def k15m0 : Method := { name := "<init>", desc := "()V", sig := { parameters := [], returnType := none }, accessFlags := 4, code := some k15c0 }
/-- java/util/AbstractList -/
def k15 : Class := { plain "java/util/AbstractList" (some 12) with
  accessFlags := 1057
  interfaces := #[14]
  cf := some (fileOf pool15 8 #[.nestMembers #[93, 98, 208, 210, 82, 77]] #[{ accessFlags := 4, nameIndex := 5, descriptorIndex := 6, attributes := #[] }] 1057 2 #[133] #[{ accessFlags := 132, nameIndex := 11, descriptorIndex := 12, attributes := #[] }])
  fields := #[{ name := "modCount", type := .int, accessFlags := 132, slot := 0, constantValue := 0 }]
  methods := #[k15m0]
  instanceTypes := #[.int]
  staticTypes := #[]
  resolved := Array.replicate 218 none
  statics := none }

def pool16 : Array CpInfo := pool [(1, .class_ 2), (0, u "java/util/RandomAccess"), (0, .class_ 4), (0, u "java/lang/Object")] 2

/-- java/util/RandomAccess -/
def k16 : Class := { plain "java/util/RandomAccess" (some 0) with
  accessFlags := 1537
  interfaces := #[]
  cf := some (fileOf pool16 1 #[] #[] 1537 3 #[] #[])
  fields := #[]
  methods := #[]
  instanceTypes := #[]
  staticTypes := #[]
  resolved := Array.replicate 7 none
  statics := none }

def pool17 : Array CpInfo := pool [(1, .class_ 2), (0, u "java/lang/Cloneable"), (0, .class_ 4), (0, u "java/lang/Object")] 2

/-- java/lang/Cloneable -/
def k17 : Class := { plain "java/lang/Cloneable" (some 0) with
  accessFlags := 1537
  interfaces := #[]
  cf := some (fileOf pool17 1 #[] #[] 1537 3 #[] #[])
  fields := #[]
  methods := #[]
  instanceTypes := #[]
  staticTypes := #[]
  resolved := Array.replicate 7 none
  statics := none }

def pool18 : Array CpInfo := pool [(1, .methodref 2 3), (0, .class_ 4), (0, .nameAndType 5 6), (0, u "java/util/AbstractList"), (0, u "<init>"), (0, u "()V"), (0, .class_ 8), (0, u "java/lang/Object"), (0, .fieldref 10 11), (0, .class_ 12), (0, .nameAndType 13 14), (0, u "java/util/ArrayList"), (0, u "elementData"), (0, u "[Ljava/lang/Object;"), (2, u "EMPTY_ELEMENTDATA"), (21, .fieldref 10 40), (0, .nameAndType 41 14), (0, u "DEFAULTCAPACITY_EMPTY_ELEMENTDATA"), (5, u "()[Ljava/lang/Object;"), (0, .fieldref 10 49), (0, .nameAndType 50 51), (0, u "size"), (0, u "I"), (11, .fieldref 10 64), (0, .nameAndType 65 51), (0, u "modCount"), (3, .methodref 10 70), (0, .nameAndType 71 72), (0, u "grow"), (0, u "(I)[Ljava/lang/Object;"), (6, .methodref 80 81), (0, .class_ 82), (0, .nameAndType 83 84), (0, u "java/lang/Math"), (0, u "max"), (0, u "(II)I"), (11, u "(Ljava/lang/Object;)Z"), (21, .methodref 119 120), (0, .class_ 121), (0, .nameAndType 122 84), (0, u "java/util/Objects"), (0, u "checkIndex"), (0, .methodref 10 124), (0, .nameAndType 13 125), (0, u "(I)Ljava/lang/Object;"), (3, .methodref 10 130), (0, .nameAndType 71 47), (0, .methodref 10 132), (0, .nameAndType 133 134), (0, u "add"), (0, u "(Ljava/lang/Object;[Ljava/lang/Object;I)V"), (13, .class_ 149), (0, u "java/util/List"), (36, u "()I"), (75, .class_ 263), (0, u "java/util/ArrayList$ListItr"), (3, .class_ 268), (0, u "java/util/ArrayList$Itr"), (7, .class_ 277), (0, u "java/util/ArrayList$SubList"), (12, .class_ 291), (0, u "java/util/ArrayList$ArrayListSpliterator"), (37, .class_ 330), (0, u "java/util/RandomAccess"), (0, .class_ 332), (0, u "java/lang/Cloneable"), (0, .class_ 334), (0, u "java/io/Serializable"), (0, u "serialVersionUID"), (0, u "J"), (3, u "DEFAULT_CAPACITY"), (40, u "get"), (118, .class_ 501), (0, u "java/util/ArrayList$SubList$2"), (0, .class_ 503), (0, u "java/util/ArrayList$SubList$1")] 5

def k18c0 : Code := { maxStack := 2, maxLocals := 1, code := jdk_38_method_2_code, exceptionTable := #[], attributes := #[] }
def k18m0 : Method := { name := "<init>", desc := "()V", sig := { parameters := [], returnType := none }, accessFlags := 1, code := some k18c0 }
def k18c1 : Code := { maxStack := 4, maxLocals := 4, code := jdk_38_method_6_code, exceptionTable := #[], attributes := #[] }
def k18m1 : Method := { name := "grow", desc := "(I)[Ljava/lang/Object;", sig := { parameters := [.int], returnType := some (.array (.object "java/lang/Object")) }, accessFlags := 2, code := some k18c1 }
def k18c2 : Code := { maxStack := 3, maxLocals := 1, code := jdk_38_method_7_code, exceptionTable := #[], attributes := #[] }
def k18m2 : Method := { name := "grow", desc := "()[Ljava/lang/Object;", sig := { parameters := [], returnType := some (.array (.object "java/lang/Object")) }, accessFlags := 2, code := some k18c2 }
def k18c3 : Code := { maxStack := 1, maxLocals := 1, code := jdk_38_method_8_code, exceptionTable := #[], attributes := #[] }
def k18m3 : Method := { name := "size", desc := "()I", sig := { parameters := [], returnType := some .int }, accessFlags := 1, code := some k18c3 }
def k18c4 : Code := { maxStack := 2, maxLocals := 2, code := jdk_38_method_18_code, exceptionTable := #[], attributes := #[] }
def k18m4 : Method := { name := "elementData", desc := "(I)Ljava/lang/Object;", sig := { parameters := [.int], returnType := some (.object "java/lang/Object") }, accessFlags := 0, code := some k18c4 }
def k18c5 : Code := { maxStack := 2, maxLocals := 2, code := jdk_38_method_20_code, exceptionTable := #[], attributes := #[] }
def k18m5 : Method := { name := "get", desc := "(I)Ljava/lang/Object;", sig := { parameters := [.int], returnType := some (.object "java/lang/Object") }, accessFlags := 1, code := some k18c5 }
def k18c6 : Code := { maxStack := 3, maxLocals := 4, code := jdk_38_method_24_code, exceptionTable := #[], attributes := #[] }
def k18m6 : Method := { name := "add", desc := "(Ljava/lang/Object;[Ljava/lang/Object;I)V", sig := { parameters := [(.object "java/lang/Object"), (.array (.object "java/lang/Object")), .int], returnType := none }, accessFlags := 2, code := some k18c6 }
def k18c7 : Code := { maxStack := 4, maxLocals := 2, code := jdk_38_method_25_code, exceptionTable := #[], attributes := #[] }
def k18m7 : Method := { name := "add", desc := "(Ljava/lang/Object;)Z", sig := { parameters := [(.object "java/lang/Object")], returnType := some .boolean }, accessFlags := 1, code := some k18c7 }
/-- java/util/ArrayList -/
def k18 : Class := { plain "java/util/ArrayList" (some 15) with
  accessFlags := 33
  interfaces := #[14, 16, 17, 2]
  cf := some (fileOf pool18 10 #[.nestMembers #[290, 276, 500, 502, 262, 267]] #[{ accessFlags := 1, nameIndex := 5, descriptorIndex := 6, attributes := #[] }, { accessFlags := 2, nameIndex := 71, descriptorIndex := 72, attributes := #[] }, { accessFlags := 2, nameIndex := 71, descriptorIndex := 47, attributes := #[] }, { accessFlags := 1, nameIndex := 50, descriptorIndex := 186, attributes := #[] }, { accessFlags := 0, nameIndex := 13, descriptorIndex := 125, attributes := #[] }, { accessFlags := 1, nameIndex := 381, descriptorIndex := 125, attributes := #[] }, { accessFlags := 2, nameIndex := 133, descriptorIndex := 134, attributes := #[] }, { accessFlags := 1, nameIndex := 133, descriptorIndex := 96, attributes := #[] }] 33 2 #[148, 329, 331, 333] #[{ accessFlags := 26, nameIndex := 335, descriptorIndex := 336, attributes := #[] }, { accessFlags := 26, nameIndex := 340, descriptorIndex := 51, attributes := #[] }, { accessFlags := 26, nameIndex := 17, descriptorIndex := 14, attributes := #[] }, { accessFlags := 26, nameIndex := 41, descriptorIndex := 14, attributes := #[] }, { accessFlags := 128, nameIndex := 13, descriptorIndex := 14, attributes := #[] }, { accessFlags := 2, nameIndex := 50, descriptorIndex := 51, attributes := #[] }])
  fields := #[{ name := "serialVersionUID", type := .long, accessFlags := 26, slot := 0, constantValue := 0 }, { name := "DEFAULT_CAPACITY", type := .int, accessFlags := 26, slot := 1, constantValue := 0 }, { name := "EMPTY_ELEMENTDATA", type := (.array (.object "java/lang/Object")), accessFlags := 26, slot := 2, constantValue := 0 }, { name := "DEFAULTCAPACITY_EMPTY_ELEMENTDATA", type := (.array (.object "java/lang/Object")), accessFlags := 26, slot := 3, constantValue := 0 }, { name := "elementData", type := (.array (.object "java/lang/Object")), accessFlags := 128, slot := 1, constantValue := 0 }, { name := "size", type := .int, accessFlags := 2, slot := 2, constantValue := 0 }]
  methods := #[k18m0, k18m1, k18m2, k18m3, k18m4, k18m5, k18m6, k18m7]
  instanceTypes := #[.int, (.array (.object "java/lang/Object")), .int]
  staticTypes := #[.long, .int, (.array (.object "java/lang/Object")), (.array (.object "java/lang/Object"))]
  resolved := Array.replicate 509 none
  statics := some 1 }

def pool19 : Array CpInfo := pool [(1, .class_ 2), (0, u "java/lang/Math"), (1, .class_ 6), (1, u "java/lang/Object"), (0, u "<init>"), (0, u "()V"), (89, .class_ 100), (1, u "java/lang/Math$RandomNumberGeneratorHolder"), (71, u "negativeZeroFloatBits"), (0, u "J"), (2, u "negativeZeroDoubleBits"), (21, u "max"), (2, u "min"), (43, u "$assertionsDisabled"), (0, u "Z"), (88, u "(II)I"), (2, u "twoToTheDoubleScaleDown"), (0, u "D"), (4, u "twoToTheDoubleScaleUp"), (9, u "E"), (3, u "PI"), (2, u "TAU"), (2, u "DEGREES_TO_RADIANS"), (0, u "RADIANS_TO_DEGREES")] 94

def k19m0 : Method := { name := "<init>", desc := "()V", sig := { parameters := [], returnType := none }, accessFlags := 2, code := none }
def k19c1 : Code := { maxStack := 2, maxLocals := 2, code := jdk_29_method_65_code, exceptionTable := #[], attributes := #[] }
def k19m1 : Method := { name := "max", desc := "(II)I", sig := { parameters := [.int, .int], returnType := some .int }, accessFlags := 9, code := some k19c1 }
def k19c2 : Code := { maxStack := 2, maxLocals := 2, code := jdk_29_method_69_code, exceptionTable := #[], attributes := #[] }
def k19m2 : Method := { name := "min", desc := "(II)I", sig := { parameters := [.int, .int], returnType := some .int }, accessFlags := 9, code := some k19c2 }
/-- java/lang/Math -/
def k19 : Class := { plain "java/lang/Math" (some 0) with
  accessFlags := 49
  interfaces := #[]
  cf := some (fileOf pool19 1 #[.nestMembers #[98]] #[{ accessFlags := 2, nameIndex := 7, descriptorIndex := 8, attributes := #[] }, { accessFlags := 9, nameIndex := 198, descriptorIndex := 335, attributes := #[] }, { accessFlags := 9, nameIndex := 201, descriptorIndex := 335, attributes := #[] }] 49 4 #[] #[{ accessFlags := 25, nameIndex := 354, descriptorIndex := 339, attributes := #[] }, { accessFlags := 25, nameIndex := 358, descriptorIndex := 339, attributes := #[] }, { accessFlags := 25, nameIndex := 361, descriptorIndex := 339, attributes := #[] }, { accessFlags := 26, nameIndex := 364, descriptorIndex := 339, attributes := #[] }, { accessFlags := 26, nameIndex := 365, descriptorIndex := 339, attributes := #[] }, { accessFlags := 26, nameIndex := 172, descriptorIndex := 173, attributes := #[] }, { accessFlags := 26, nameIndex := 176, descriptorIndex := 173, attributes := #[] }, { accessFlags := 8, nameIndex := 344, descriptorIndex := 339, attributes := #[] }, { accessFlags := 8, nameIndex := 338, descriptorIndex := 339, attributes := #[] }, { accessFlags := 4120, nameIndex := 245, descriptorIndex := 246, attributes := #[] }])
  fields := #[{ name := "E", type := .double, accessFlags := 25, slot := 0, constantValue := 0 }, { name := "PI", type := .double, accessFlags := 25, slot := 1, constantValue := 0 }, { name := "TAU", type := .double, accessFlags := 25, slot := 2, constantValue := 0 }, { name := "DEGREES_TO_RADIANS", type := .double, accessFlags := 26, slot := 3, constantValue := 0 }, { name := "RADIANS_TO_DEGREES", type := .double, accessFlags := 26, slot := 4, constantValue := 0 }, { name := "negativeZeroFloatBits", type := .long, accessFlags := 26, slot := 5, constantValue := 0 }, { name := "negativeZeroDoubleBits", type := .long, accessFlags := 26, slot := 6, constantValue := 0 }, { name := "twoToTheDoubleScaleUp", type := .double, accessFlags := 8, slot := 7, constantValue := 0 }, { name := "twoToTheDoubleScaleDown", type := .double, accessFlags := 8, slot := 8, constantValue := 0 }, { name := "$assertionsDisabled", type := .boolean, accessFlags := 4120, slot := 9, constantValue := 0 }]
  methods := #[k19m0, k19m1, k19m2]
  instanceTypes := #[]
  staticTypes := #[.double, .double, .double, .double, .double, .long, .long, .double, .double, .boolean]
  resolved := Array.replicate 460 none
  statics := none }

def pool20 : Array CpInfo := pool [(1, .methodref 2 3), (0, .class_ 4), (0, .nameAndType 5 6), (0, u "java/lang/Object"), (0, u "<init>"), (0, u "()V"), (0, .fieldref 8 9), (0, .class_ 10), (0, .nameAndType 11 12), (0, u "com/example/runqueue/runqueue/Arguments"), (0, u "args"), (0, u "Ljava/util/List;"), (0, .fieldref 8 14), (0, .nameAndType 15 16), (0, u "next"), (0, u "I"), (0, .interfaceMethodref 18 19), (0, .class_ 20), (0, .nameAndType 21 22), (0, u "java/util/List"), (0, u "size"), (0, u "()I"), (0, .interfaceMethodref 18 24), (0, .nameAndType 25 26), (0, u "get"), (0, u "(I)Ljava/lang/Object;"), (0, .class_ 28), (0, u "java/lang/String"), (0, .string 30), (0, u "--"), (0, .methodref 27 32), (0, .nameAndType 33 34), (0, u "equals"), (0, u "(Ljava/lang/Object;)Z"), (0, .string 36), (0, u "-"), (0, .methodref 27 38), (0, .nameAndType 39 40), (0, u "startsWith"), (0, u "(Ljava/lang/String;)Z"), (0, .methodref 27 42), (0, .nameAndType 43 44), (0, u "indexOf"), (0, u "(I)I"), (0, .methodref 27 46), (0, .nameAndType 47 48), (0, u "substring"), (0, u "(II)Ljava/lang/String;"), (0, .fieldref 8 50), (0, .nameAndType 51 52), (0, u "option"), (0, u "Ljava/lang/String;"), (3, .fieldref 8 57), (0, .nameAndType 58 52), (0, u "attached"), (0, .methodref 27 60), (0, .nameAndType 61 22), (0, u "length"), (5, u "(Ljava/lang/String;)Ljava/lang/String;"), (7, u "()Ljava/lang/String;"), (17, u "DECIMAL"), (0, u "Ljava/util/regex/Pattern;"), (11, u "()Z"), (54, u "(Ljava/util/List;)V"), (3, u "nextOption"), (2, u "flag"), (7, u "lastOperand")] 31

def k20c0 : Code := { maxStack := 2, maxLocals := 2, code := prog_1_method_1_code, exceptionTable := #[], attributes := #[] }
def k20m0 : Method := { name := "<init>", desc := "(Ljava/util/List;)V", sig := { parameters := [(.object "java/util/List")], returnType := none }, accessFlags := 0, code := some k20c0 }
def k20c1 : Code := { maxStack := 4, maxLocals := 3, code := prog_1_method_2_code, exceptionTable := #[], attributes := #[] }
def k20m1 : Method := { name := "nextOption", desc := "()Ljava/lang/String;", sig := { parameters := [], returnType := some (.object "java/lang/String") }, accessFlags := 0, code := some k20c1 }
def k20c2 : Code := { maxStack := 3, maxLocals := 1, code := prog_1_method_4_code, exceptionTable := #[], attributes := #[] }
def k20m2 : Method := { name := "flag", desc := "()Z", sig := { parameters := [], returnType := some .boolean }, accessFlags := 0, code := some k20c2 }
def k20c3 : Code := { maxStack := 6, maxLocals := 2, code := prog_1_method_10_code, exceptionTable := #[], attributes := #[] }
def k20m3 : Method := { name := "lastOperand", desc := "(Ljava/lang/String;)Ljava/lang/String;", sig := { parameters := [(.object "java/lang/String")], returnType := some (.object "java/lang/String") }, accessFlags := 0, code := some k20c3 }
/-- com/example/runqueue/runqueue/Arguments -/
def k20 : Class := { plain "com/example/runqueue/runqueue/Arguments" (some 0) with
  accessFlags := 48
  interfaces := #[]
  cf := some (fileOf pool20 8 #[] #[{ accessFlags := 0, nameIndex := 5, descriptorIndex := 161, attributes := #[] }, { accessFlags := 0, nameIndex := 165, descriptorIndex := 75, attributes := #[] }, { accessFlags := 0, nameIndex := 168, descriptorIndex := 106, attributes := #[] }, { accessFlags := 0, nameIndex := 176, descriptorIndex := 67, attributes := #[] }] 48 2 #[] #[{ accessFlags := 26, nameIndex := 93, descriptorIndex := 94, attributes := #[] }, { accessFlags := 18, nameIndex := 11, descriptorIndex := 12, attributes := #[] }, { accessFlags := 2, nameIndex := 15, descriptorIndex := 16, attributes := #[] }, { accessFlags := 2, nameIndex := 51, descriptorIndex := 52, attributes := #[] }, { accessFlags := 2, nameIndex := 58, descriptorIndex := 52, attributes := #[] }])
  fields := #[{ name := "DECIMAL", type := (.object "java/util/regex/Pattern"), accessFlags := 26, slot := 0, constantValue := 0 }, { name := "args", type := (.object "java/util/List"), accessFlags := 18, slot := 0, constantValue := 0 }, { name := "next", type := .int, accessFlags := 2, slot := 1, constantValue := 0 }, { name := "option", type := (.object "java/lang/String"), accessFlags := 2, slot := 2, constantValue := 0 }, { name := "attached", type := (.object "java/lang/String"), accessFlags := 2, slot := 3, constantValue := 0 }]
  methods := #[k20m0, k20m1, k20m2, k20m3]
  instanceTypes := #[(.object "java/util/List"), .int, (.object "java/lang/String"), (.object "java/lang/String")]
  staticTypes := #[(.object "java/util/regex/Pattern")]
  resolved := Array.replicate 208 none
  statics := none }

def pool21 : Array CpInfo := pool [(2, .class_ 4), (1, u "java/lang/Object"), (0, u "<init>"), (0, u "()V"), (35, .class_ 44), (1, u "java/util/Objects"), (60, .methodref 106 107), (0, .class_ 108), (0, .nameAndType 109 110), (0, u "jdk/internal/util/Preconditions"), (0, u "checkIndex"), (0, u "(IILjava/util/function/BiFunction;)I"), (60, u "(II)I")] 12

def k21m0 : Method := { name := "<init>", desc := "()V", sig := { parameters := [], returnType := none }, accessFlags := 2, code := none }
def k21c1 : Code := { maxStack := 3, maxLocals := 2, code := jdk_31_method_17_code, exceptionTable := #[], attributes := #[] }
def k21m1 : Method := { name := "checkIndex", desc := "(II)I", sig := { parameters := [.int, .int], returnType := some .int }, accessFlags := 9, code := some k21c1 }
/-- java/util/Objects -/
def k21 : Class := { plain "java/util/Objects" (some 0) with
  accessFlags := 49
  interfaces := #[]
  cf := some (fileOf pool21 42 #[] #[{ accessFlags := 2, nameIndex := 5, descriptorIndex := 6, attributes := #[] }, { accessFlags := 9, nameIndex := 109, descriptorIndex := 171, attributes := #[] }] 49 2 #[] #[])
  fields := #[]
  methods := #[k21m0, k21m1]
  instanceTypes := #[]
  staticTypes := #[]
  resolved := Array.replicate 184 none
  statics := none }

def pool22 : Array CpInfo := pool [(2, .class_ 4), (1, u "java/lang/Object"), (0, u "<init>"), (0, u "()V"), (17, .class_ 26), (1, u "jdk/internal/util/Preconditions"), (6, u "checkIndex"), (13, u "checkFromToIndex"), (7, .class_ 56), (0, u "jdk/internal/util/Preconditions$4"), (57, .class_ 115), (0, u "jdk/internal/util/Preconditions$1"), (7, u "SIOOBE_FORMATTER"), (0, u "Ljava/util/function/BiFunction;"), (0, .class_ 126), (0, u "jdk/internal/util/Preconditions$2"), (3, u "AIOOBE_FORMATTER"), (0, .class_ 132), (0, u "jdk/internal/util/Preconditions$3"), (3, u "IOOBE_FORMATTER"), (41, u "(IILjava/util/function/BiFunction;)I"), (4, u "(IIILjava/util/function/BiFunction;)I")] 10

def k22m0 : Method := { name := "<init>", desc := "()V", sig := { parameters := [], returnType := none }, accessFlags := 1, code := none }
def k22c1 : Code := { maxStack := 3, maxLocals := 3, code := jdk_41_method_11_code, exceptionTable := #[], attributes := #[] }
def k22m1 : Method := { name := "checkIndex", desc := "(IILjava/util/function/BiFunction;)I", sig := { parameters := [.int, .int, (.object "java/util/function/BiFunction")], returnType := some .int }, accessFlags := 9, code := some k22c1 }
def k22c2 : Code := { maxStack := 4, maxLocals := 4, code := jdk_41_method_12_code, exceptionTable := #[], attributes := #[] }
def k22m2 : Method := { name := "checkFromToIndex", desc := "(IIILjava/util/function/BiFunction;)I", sig := { parameters := [.int, .int, .int, (.object "java/util/function/BiFunction")], returnType := some .int }, accessFlags := 9, code := some k22c2 }
/-- jdk/internal/util/Preconditions -/
def k22 : Class := { plain "jdk/internal/util/Preconditions" (some 0) with
  accessFlags := 33
  interfaces := #[]
  cf := some (fileOf pool22 24 #[.nestMembers #[55, 131, 125, 114]] #[{ accessFlags := 1, nameIndex := 5, descriptorIndex := 6, attributes := #[] }, { accessFlags := 9, nameIndex := 33, descriptorIndex := 178, attributes := #[] }, { accessFlags := 9, nameIndex := 47, descriptorIndex := 183, attributes := #[] }] 33 2 #[] #[{ accessFlags := 25, nameIndex := 123, descriptorIndex := 124, attributes := #[] }, { accessFlags := 25, nameIndex := 130, descriptorIndex := 124, attributes := #[] }, { accessFlags := 25, nameIndex := 136, descriptorIndex := 124, attributes := #[] }])
  fields := #[{ name := "SIOOBE_FORMATTER", type := (.object "java/util/function/BiFunction"), accessFlags := 25, slot := 0, constantValue := 0 }, { name := "AIOOBE_FORMATTER", type := (.object "java/util/function/BiFunction"), accessFlags := 25, slot := 1, constantValue := 0 }, { name := "IOOBE_FORMATTER", type := (.object "java/util/function/BiFunction"), accessFlags := 25, slot := 2, constantValue := 0 }]
  methods := #[k22m0, k22m1, k22m2]
  instanceTypes := #[]
  staticTypes := #[(.object "java/util/function/BiFunction"), (.object "java/util/function/BiFunction"), (.object "java/util/function/BiFunction")]
  resolved := Array.replicate 194 none
  statics := some 2 }

def pool23 : Array CpInfo := pool [(9, u "<init>"), (6, .class_ 18), (1, u "java/lang/Object"), (0, u "()V"), (1, .class_ 23), (1, u "jdk/internal/util/ArraysSupport"), (0, u "LOG2_ARRAY_LONG_INDEX_SCALE"), (0, u "I"), (2, u "U"), (0, u "Ljdk/internal/misc/Unsafe;"), (8, u "BIG_ENDIAN"), (0, u "Z"), (8, u "LOG2_BYTE_BIT_SIZE"), (4, u "LOG2_ARRAY_INT_INDEX_SCALE"), (54, u "JLA"), (0, u "Ljdk/internal/access/JavaLangAccess;"), (11, u "LOG2_ARRAY_BOOLEAN_INDEX_SCALE"), (9, u "LOG2_ARRAY_BYTE_INDEX_SCALE"), (5, u "LOG2_ARRAY_CHAR_INDEX_SCALE"), (5, u "LOG2_ARRAY_SHORT_INDEX_SCALE"), (5, u "mismatch"), (12, u "LOG2_ARRAY_FLOAT_INDEX_SCALE"), (24, u "LOG2_ARRAY_DOUBLE_INDEX_SCALE"), (89, u "T_BOOLEAN"), (2, u "T_CHAR"), (1, u "T_FLOAT"), (1, u "T_DOUBLE"), (1, u "T_BYTE"), (1, u "T_SHORT"), (1, u "T_INT"), (1, u "T_LONG"), (1, u "SOFT_MAX_ARRAY_LENGTH"), (42, u "([BI[BII)I")] 40

def k23m0 : Method := { name := "<init>", desc := "()V", sig := { parameters := [], returnType := none }, accessFlags := 2, code := none }
def k23c1 : Code := { maxStack := 8, maxLocals := 8, code := jdk_48_method_14_code, exceptionTable := #[], attributes := #[] }
def k23m1 : Method := { name := "mismatch", desc := "([BI[BII)I", sig := { parameters := [(.array .byte), .int, (.array .byte), .int, .int], returnType := some .int }, accessFlags := 9, code := some k23c1 }
/-- jdk/internal/util/ArraysSupport -/
def k23 : Class := { plain "jdk/internal/util/ArraysSupport" (some 0) with
  accessFlags := 33
  interfaces := #[]
  cf := some (fileOf pool23 21 #[] #[{ accessFlags := 2, nameIndex := 9, descriptorIndex := 19, attributes := #[] }, { accessFlags := 9, nameIndex := 149, descriptorIndex := 337, attributes := #[] }] 33 16 #[] #[{ accessFlags := 24, nameIndex := 28, descriptorIndex := 29, attributes := #[] }, { accessFlags := 26, nameIndex := 38, descriptorIndex := 39, attributes := #[] }, { accessFlags := 25, nameIndex := 121, descriptorIndex := 25, attributes := #[] }, { accessFlags := 25, nameIndex := 131, descriptorIndex := 25, attributes := #[] }, { accessFlags := 25, nameIndex := 137, descriptorIndex := 25, attributes := #[] }, { accessFlags := 25, nameIndex := 143, descriptorIndex := 25, attributes := #[] }, { accessFlags := 25, nameIndex := 53, descriptorIndex := 25, attributes := #[] }, { accessFlags := 25, nameIndex := 24, descriptorIndex := 25, attributes := #[] }, { accessFlags := 25, nameIndex := 162, descriptorIndex := 25, attributes := #[] }, { accessFlags := 25, nameIndex := 187, descriptorIndex := 25, attributes := #[] }, { accessFlags := 26, nameIndex := 48, descriptorIndex := 25, attributes := #[] }, { accessFlags := 25, nameIndex := 277, descriptorIndex := 25, attributes := #[] }, { accessFlags := 25, nameIndex := 280, descriptorIndex := 25, attributes := #[] }, { accessFlags := 25, nameIndex := 282, descriptorIndex := 25, attributes := #[] }, { accessFlags := 25, nameIndex := 284, descriptorIndex := 25, attributes := #[] }, { accessFlags := 25, nameIndex := 286, descriptorIndex := 25, attributes := #[] }, { accessFlags := 25, nameIndex := 288, descriptorIndex := 25, attributes := #[] }, { accessFlags := 25, nameIndex := 290, descriptorIndex := 25, attributes := #[] }, { accessFlags := 25, nameIndex := 292, descriptorIndex := 25, attributes := #[] }, { accessFlags := 26, nameIndex := 108, descriptorIndex := 109, attributes := #[] }, { accessFlags := 25, nameIndex := 294, descriptorIndex := 25, attributes := #[] }])
  fields := #[{ name := "U", type := (.object "jdk/internal/misc/Unsafe"), accessFlags := 24, slot := 0, constantValue := 0 }, { name := "BIG_ENDIAN", type := .boolean, accessFlags := 26, slot := 1, constantValue := 0 }, { name := "LOG2_ARRAY_BOOLEAN_INDEX_SCALE", type := .int, accessFlags := 25, slot := 2, constantValue := 0 }, { name := "LOG2_ARRAY_BYTE_INDEX_SCALE", type := .int, accessFlags := 25, slot := 3, constantValue := 0 }, { name := "LOG2_ARRAY_CHAR_INDEX_SCALE", type := .int, accessFlags := 25, slot := 4, constantValue := 0 }, { name := "LOG2_ARRAY_SHORT_INDEX_SCALE", type := .int, accessFlags := 25, slot := 5, constantValue := 0 }, { name := "LOG2_ARRAY_INT_INDEX_SCALE", type := .int, accessFlags := 25, slot := 6, constantValue := 0 }, { name := "LOG2_ARRAY_LONG_INDEX_SCALE", type := .int, accessFlags := 25, slot := 7, constantValue := 0 }, { name := "LOG2_ARRAY_FLOAT_INDEX_SCALE", type := .int, accessFlags := 25, slot := 8, constantValue := 0 }, { name := "LOG2_ARRAY_DOUBLE_INDEX_SCALE", type := .int, accessFlags := 25, slot := 9, constantValue := 0 }, { name := "LOG2_BYTE_BIT_SIZE", type := .int, accessFlags := 26, slot := 10, constantValue := 0 }, { name := "T_BOOLEAN", type := .int, accessFlags := 25, slot := 11, constantValue := 0 }, { name := "T_CHAR", type := .int, accessFlags := 25, slot := 12, constantValue := 0 }, { name := "T_FLOAT", type := .int, accessFlags := 25, slot := 13, constantValue := 0 }, { name := "T_DOUBLE", type := .int, accessFlags := 25, slot := 14, constantValue := 0 }, { name := "T_BYTE", type := .int, accessFlags := 25, slot := 15, constantValue := 0 }, { name := "T_SHORT", type := .int, accessFlags := 25, slot := 16, constantValue := 0 }, { name := "T_INT", type := .int, accessFlags := 25, slot := 17, constantValue := 0 }, { name := "T_LONG", type := .int, accessFlags := 25, slot := 18, constantValue := 0 }, { name := "JLA", type := (.object "jdk/internal/access/JavaLangAccess"), accessFlags := 26, slot := 19, constantValue := 0 }, { name := "SOFT_MAX_ARRAY_LENGTH", type := .int, accessFlags := 25, slot := 20, constantValue := 0 }]
  methods := #[k23m0, k23m1]
  instanceTypes := #[]
  staticTypes := #[(.object "jdk/internal/misc/Unsafe"), .boolean, .int, .int, .int, .int, .int, .int, .int, .int, .int, .int, .int, .int, .int, .int, .int, .int, .int, (.object "jdk/internal/access/JavaLangAccess"), .int]
  resolved := Array.replicate 378 none
  statics := none }

/-- the primitive byte -/
def k24 : Class := { plain "byte" none with kind := .primitive 'B', accessFlags := 0x411 }
/-- [B -/
def k25 : Class := { plain "[B" (some 0) with kind := .array 24 .byte, interfaces := #[17, 2], accessFlags := 1041 }

/-- the primitive char -/
def k26 : Class := { plain "char" none with kind := .primitive 'C', accessFlags := 0x411 }
/-- [C -/
def k27 : Class := { plain "[C" (some 0) with kind := .array 26 .char, interfaces := #[17, 2], accessFlags := 1041 }

/-- the primitive int -/
def k28 : Class := { plain "int" none with kind := .primitive 'I', accessFlags := 0x411 }
/-- [I -/
def k29 : Class := { plain "[I" (some 0) with kind := .array 28 .int, interfaces := #[17, 2], accessFlags := 1041 }

/-- [Ljava/lang/Object; -/
def k30 : Class := { plain "[Ljava/lang/Object;" (some 0) with kind := .array 0 (.object "java/lang/Object"), interfaces := #[17, 2], accessFlags := 1041 }

def heap : Heap := #[{ cls := 7, slots := #[.long 0, .int 1, .null, .int 0, .null, .int 0, .int 0], vm := .statics 7 },
  { cls := 18, slots := #[.long 0, .int 0, .ref 3, .ref 4], vm := .statics 18 },
  { cls := 22, slots := #[.null, .null, .null], vm := .statics 22 },
  { cls := 30, slots := #[], vm := .none },
  { cls := 30, slots := #[], vm := .none }]
def classes : Array Class := #[k0, k1, k2, k3, k4, k5, k6, k7, k8, k9, k10, k11, k12, k13, k14, k15, k16, k17, k18, k19, k20, k21, k22, k23, k24, k25, k26, k27, k28, k29, k30]
def interned : List (Array UInt16 × Addr) := []
def slotsUsed : Nat := 14
def theMethod : MethodId := ⟨1, 1⟩
def args0 : Array Value := #[.int 1, .int 2, .int 3, .int 4]
def aboutOver (below : List Frame) : State where
  vm := { classes := classes, interned := interned.toArray }
  heap := heap
  slotsUsed := slotsUsed
  threads := #[{ frames := .invoking theMethod args0 :: below }]
def below0 : List Frame := [.native { method := ⟨0, 0⟩, args := #[] }]
def about1 : State := aboutOver below0
def p0 : Program := .bare "" "" ""
def e0 : Env := launch0.env 0 0 0
theorem w_frames : about1.frames = Frame.invoking theMethod args0 :: below0 := rfl
set_option maxRecDepth 65536 in
theorem w_args : argsFit about1.vm theMethod args0 = true := by decide +kernel
set_option maxRecDepth 65536 in
theorem w_heap : heapFits about1 = true := by decide +kernel
set_option maxRecDepth 65536 in
theorem w_runnable : about1.curStatus? = some .runnable := by decide +kernel
set_option maxRecDepth 65536 in
theorem w_alone : about1.alone = true := by decide +kernel
set_option maxRecDepth 65536 in
theorem w_named : about1.methodNamed? x = some theMethod := by decide +kernel
set_option maxRecDepth 65536 in
theorem w_hears : about1.hears theMethod below0 = true := by decide +kernel
set_option maxRecDepth 65536 in
theorem w_ripe : about1.ripe theMethod args0 below0 = true := by decide +kernel
theorem w_running : about1.status = .running := rfl
set_option maxRecDepth 65536 in
theorem w_room : about1.hasRoom e0.platform room_1 = true :=
  launch0.hasRoom_least _ room_1 (by decide +kernel) (by decide +kernel) (by decide +kernel) (by decide +kernel) (by decide +kernel) (by decide +kernel)
theorem allAtoms_all (ts : List Jvm.Cond) (a : Array Jvm.Value) (st : Jvm.State) : (allAtoms ts).before a st = ts.all (fun c => c.before a st) := by
  induction ts with
  | nil => rfl
  | cons c t ih =>
    show (Jvm.Cond.and c (allAtoms t)).before a st = _
    rw [Jvm.Cond.before_and, ih, List.all_cons]
def words1 : List Jvm.Cond := Jvm.Cond.code x code maxLocals ret :: tables_1
/-- a 'code' word, met by the world's own term for the bytes: nothing is compared byte by byte -/
theorem code_word {y : MethodName} {bytes : ByteArray} {mx : Nat} {rt : Option FieldType} {a : Array Value} {s : State} {m : MethodId} {meth : Method} {c : Code} (h1 : s.methodNamed? y = some m) (h2 : s.vm.method? m = some meth) (h3 : meth.code = some c) (h4 : c.code = bytes)
    (h5 : (c.maxLocals == mx && c.exceptionTable.isEmpty && decide (c.maxStack ≤ mostOperands) && decide (meth.sig.returnType = rt) && !meth.locks && decide (parseMethodDescriptor y.desc = some meth.sig)) = true) : (Jvm.Cond.code y bytes mx rt).before a s = true := by
  simp only [Bool.and_eq_true, beq_iff_eq, Bool.not_eq_true', decide_eq_true_eq] at h5
  obtain ⟨⟨⟨⟨⟨g1, g2⟩, g3⟩, g4⟩, g5⟩, g6⟩ := h5
  simp [Cond.before, Cond.holds, Cond.value, h1, h2, h3, h4, g1, g2, g3, g4, g5, g6]
def isCode : Jvm.Cond → Bool
  | .code _ _ _ _ => true
  | _ => false
theorem all_split {L : List Jvm.Cond} {P : Jvm.Cond → Bool} (h1 : L.all (fun c => isCode c || P c) = true) (h2 : ∀ c ∈ L.filter isCode, P c = true) : L.all P = true := by
  refine List.all_eq_true.mpr fun c hc => ?_
  have h := List.all_eq_true.mp h1 c hc
  rcases Bool.eq_false_or_eq_true (isCode c) with hi | hi
  · exact h2 c (List.mem_filter.mpr ⟨hc, hi⟩)
  · simpa [hi] using h
set_option maxRecDepth 65536 in
theorem w_c0 : (Jvm.Cond.code x code maxLocals ret).before args0 about1 = true := code_word (m := ⟨1, 1⟩) (meth := k1m1) (c := k1c1) (by decide +kernel) rfl rfl rfl (by decide +kernel)
set_option maxRecDepth 65536 in
theorem w_c1 : (Jvm.Cond.code ({ cls := "java/lang/String", name := "<init>", desc := "([C)V" } : Jvm.MethodName) jdk_42_method_3_code (2 : Nat) (Option.none : Option Jvm.ClassFile.FieldType)).before args0 about1 = true := code_word (m := ⟨7, 1⟩) (meth := k7m1) (c := k7c1) (by decide +kernel) rfl rfl rfl (by decide +kernel)
set_option maxRecDepth 65536 in
theorem w_c2 : (Jvm.Cond.code ({ cls := "java/lang/String", name := "<init>", desc := "([CIILjava/lang/Void;)V" } : Jvm.MethodName) jdk_42_method_149_code (6 : Nat) (Option.none : Option Jvm.ClassFile.FieldType)).before args0 about1 = true := code_word (m := ⟨7, 10⟩) (meth := k7m10) (c := k7c10) (by decide +kernel) rfl rfl rfl (by decide +kernel)
set_option maxRecDepth 65536 in
theorem w_c3 : (Jvm.Cond.code ({ cls := "java/lang/Object", name := "<init>", desc := "()V" } : Jvm.MethodName) object_method_1_code (1 : Nat) (Option.none : Option Jvm.ClassFile.FieldType)).before args0 about1 = true := code_word (m := ⟨0, 0⟩) (meth := k0m0) (c := k0c0) (by decide +kernel) rfl rfl rfl (by decide +kernel)
set_option maxRecDepth 65536 in
theorem w_c4 : (Jvm.Cond.code ({ cls := "java/lang/StringUTF16", name := "compress", desc := "([CII)[B" } : Jvm.MethodName) jdk_52_method_16_code (6 : Nat) (Option.some (Jvm.ClassFile.FieldType.array Jvm.ClassFile.FieldType.byte))).before args0 about1 = true := code_word (m := ⟨8, 2⟩) (meth := k8m2) (c := k8c2) (by decide +kernel) rfl rfl rfl (by decide +kernel)
set_option maxRecDepth 65536 in
theorem w_c5 : (Jvm.Cond.code ({ cls := "java/lang/StringUTF16", name := "compress", desc := "([CI[BII)I" } : Jvm.MethodName) jdk_52_method_21_code (7 : Nat) (Option.some Jvm.ClassFile.FieldType.int)).before args0 about1 = true := code_word (m := ⟨8, 3⟩) (meth := k8m3) (c := k8c3) (by decide +kernel) rfl rfl rfl (by decide +kernel)
set_option maxRecDepth 65536 in
theorem w_c6 : (Jvm.Cond.code ({ cls := "java/lang/StringUTF16", name := "coderFromArrayLen", desc := "([BI)B" } : Jvm.MethodName) jdk_52_method_15_code (2 : Nat) (Option.some Jvm.ClassFile.FieldType.byte)).before args0 about1 = true := code_word (m := ⟨8, 1⟩) (meth := k8m1) (c := k8c1) (by decide +kernel) rfl rfl rfl (by decide +kernel)
set_option maxRecDepth 65536 in
theorem w_c7 : (Jvm.Cond.code ({ cls := "java/lang/String", name := "valueOf", desc := "(C)Ljava/lang/String;" } : Jvm.MethodName) jdk_42_method_139_code (1 : Nat) (Option.some (Jvm.ClassFile.FieldType.object "java/lang/String"))).before args0 about1 = true := code_word (m := ⟨7, 9⟩) (meth := k7m9) (c := k7c9) (by decide +kernel) rfl rfl rfl (by decide +kernel)
set_option maxRecDepth 65536 in
theorem w_c8 : (Jvm.Cond.code ({ cls := "java/lang/StringLatin1", name := "canEncode", desc := "(C)Z" } : Jvm.MethodName) jdk_43_method_3_code (1 : Nat) (Option.some Jvm.ClassFile.FieldType.boolean)).before args0 about1 = true := code_word (m := ⟨9, 1⟩) (meth := k9m1) (c := k9c1) (by decide +kernel) rfl rfl rfl (by decide +kernel)
set_option maxRecDepth 65536 in
theorem w_c9 : (Jvm.Cond.code ({ cls := "java/lang/StringLatin1", name := "toBytes", desc := "(C)[B" } : Jvm.MethodName) jdk_43_method_46_code (1 : Nat) (Option.some (Jvm.ClassFile.FieldType.array Jvm.ClassFile.FieldType.byte))).before args0 about1 = true := code_word (m := ⟨9, 6⟩) (meth := k9m6) (c := k9c6) (by decide +kernel) rfl rfl rfl (by decide +kernel)
set_option maxRecDepth 65536 in
theorem w_c10 : (Jvm.Cond.code ({ cls := "java/lang/String", name := "<init>", desc := "([BB)V" } : Jvm.MethodName) jdk_42_method_151_code (3 : Nat) (Option.none : Option Jvm.ClassFile.FieldType)).before args0 about1 = true := code_word (m := ⟨7, 11⟩) (meth := k7m11) (c := k7c11) (by decide +kernel) rfl rfl rfl (by decide +kernel)
set_option maxRecDepth 65536 in
theorem w_c11 : (Jvm.Cond.code ({ cls := "java/util/ArrayList", name := "<init>", desc := "()V" } : Jvm.MethodName) jdk_38_method_2_code (1 : Nat) (Option.none : Option Jvm.ClassFile.FieldType)).before args0 about1 = true := code_word (m := ⟨18, 0⟩) (meth := k18m0) (c := k18c0) (by decide +kernel) rfl rfl rfl (by decide +kernel)
set_option maxRecDepth 65536 in
theorem w_c12 : (Jvm.Cond.code ({ cls := "java/util/AbstractList", name := "<init>", desc := "()V" } : Jvm.MethodName) jdk_39_method_1_code (1 : Nat) (Option.none : Option Jvm.ClassFile.FieldType)).before args0 about1 = true := code_word (m := ⟨15, 0⟩) (meth := k15m0) (c := k15c0) (by decide +kernel) rfl rfl rfl (by decide +kernel)
set_option maxRecDepth 65536 in
theorem w_c13 : (Jvm.Cond.code ({ cls := "java/util/AbstractCollection", name := "<init>", desc := "()V" } : Jvm.MethodName) jdk_22_method_1_code (1 : Nat) (Option.none : Option Jvm.ClassFile.FieldType)).before args0 about1 = true := code_word (m := ⟨12, 0⟩) (meth := k12m0) (c := k12c0) (by decide +kernel) rfl rfl rfl (by decide +kernel)
set_option maxRecDepth 65536 in
theorem w_c14 : (Jvm.Cond.code ({ cls := "java/util/ArrayList", name := "add", desc := "(Ljava/lang/Object;)Z" } : Jvm.MethodName) jdk_38_method_25_code (2 : Nat) (Option.some Jvm.ClassFile.FieldType.boolean)).before args0 about1 = true := code_word (m := ⟨18, 7⟩) (meth := k18m7) (c := k18c7) (by decide +kernel) rfl rfl rfl (by decide +kernel)
set_option maxRecDepth 65536 in
theorem w_c15 : (Jvm.Cond.code ({ cls := "java/util/ArrayList", name := "add", desc := "(Ljava/lang/Object;[Ljava/lang/Object;I)V" } : Jvm.MethodName) jdk_38_method_24_code (4 : Nat) (Option.none : Option Jvm.ClassFile.FieldType)).before args0 about1 = true := code_word (m := ⟨18, 6⟩) (meth := k18m6) (c := k18c6) (by decide +kernel) rfl rfl rfl (by decide +kernel)
set_option maxRecDepth 65536 in
theorem w_c16 : (Jvm.Cond.code ({ cls := "java/util/ArrayList", name := "grow", desc := "()[Ljava/lang/Object;" } : Jvm.MethodName) jdk_38_method_7_code (1 : Nat) (Option.some (Jvm.ClassFile.FieldType.array (Jvm.ClassFile.FieldType.object "java/lang/Object")))).before args0 about1 = true := code_word (m := ⟨18, 2⟩) (meth := k18m2) (c := k18c2) (by decide +kernel) rfl rfl rfl (by decide +kernel)
set_option maxRecDepth 65536 in
theorem w_c17 : (Jvm.Cond.code ({ cls := "java/util/ArrayList", name := "grow", desc := "(I)[Ljava/lang/Object;" } : Jvm.MethodName) jdk_38_method_6_code (4 : Nat) (Option.some (Jvm.ClassFile.FieldType.array (Jvm.ClassFile.FieldType.object "java/lang/Object")))).before args0 about1 = true := code_word (m := ⟨18, 1⟩) (meth := k18m1) (c := k18c1) (by decide +kernel) rfl rfl rfl (by decide +kernel)
set_option maxRecDepth 65536 in
theorem w_c18 : (Jvm.Cond.code ({ cls := "java/lang/Math", name := "max", desc := "(II)I" } : Jvm.MethodName) jdk_29_method_65_code (2 : Nat) (Option.some Jvm.ClassFile.FieldType.int)).before args0 about1 = true := code_word (m := ⟨19, 1⟩) (meth := k19m1) (c := k19c1) (by decide +kernel) rfl rfl rfl (by decide +kernel)
set_option maxRecDepth 65536 in
theorem w_c19 : (Jvm.Cond.code ({ cls := "com/example/runqueue/runqueue/Arguments", name := "<init>", desc := "(Ljava/util/List;)V" } : Jvm.MethodName) prog_1_method_1_code (2 : Nat) (Option.none : Option Jvm.ClassFile.FieldType)).before args0 about1 = true := code_word (m := ⟨20, 0⟩) (meth := k20m0) (c := k20c0) (by decide +kernel) rfl rfl rfl (by decide +kernel)
set_option maxRecDepth 65536 in
theorem w_c20 : (Jvm.Cond.code ({ cls := "com/example/runqueue/runqueue/Arguments", name := "nextOption", desc := "()Ljava/lang/String;" } : Jvm.MethodName) prog_1_method_2_code (3 : Nat) (Option.some (Jvm.ClassFile.FieldType.object "java/lang/String"))).before args0 about1 = true := code_word (m := ⟨20, 1⟩) (meth := k20m1) (c := k20c1) (by decide +kernel) rfl rfl rfl (by decide +kernel)
set_option maxRecDepth 65536 in
theorem w_c21 : (Jvm.Cond.code ({ cls := "java/util/ArrayList", name := "size", desc := "()I" } : Jvm.MethodName) jdk_38_method_8_code (1 : Nat) (Option.some Jvm.ClassFile.FieldType.int)).before args0 about1 = true := code_word (m := ⟨18, 3⟩) (meth := k18m3) (c := k18c3) (by decide +kernel) rfl rfl rfl (by decide +kernel)
set_option maxRecDepth 65536 in
theorem w_c22 : (Jvm.Cond.code ({ cls := "java/util/ArrayList", name := "get", desc := "(I)Ljava/lang/Object;" } : Jvm.MethodName) jdk_38_method_20_code (2 : Nat) (Option.some (Jvm.ClassFile.FieldType.object "java/lang/Object"))).before args0 about1 = true := code_word (m := ⟨18, 5⟩) (meth := k18m5) (c := k18c5) (by decide +kernel) rfl rfl rfl (by decide +kernel)
set_option maxRecDepth 65536 in
theorem w_c23 : (Jvm.Cond.code ({ cls := "java/util/Objects", name := "checkIndex", desc := "(II)I" } : Jvm.MethodName) jdk_31_method_17_code (2 : Nat) (Option.some Jvm.ClassFile.FieldType.int)).before args0 about1 = true := code_word (m := ⟨21, 1⟩) (meth := k21m1) (c := k21c1) (by decide +kernel) rfl rfl rfl (by decide +kernel)
set_option maxRecDepth 65536 in
theorem w_c24 : (Jvm.Cond.code ({ cls := "jdk/internal/util/Preconditions", name := "checkIndex", desc := "(IILjava/util/function/BiFunction;)I" } : Jvm.MethodName) jdk_41_method_11_code (3 : Nat) (Option.some Jvm.ClassFile.FieldType.int)).before args0 about1 = true := code_word (m := ⟨22, 1⟩) (meth := k22m1) (c := k22c1) (by decide +kernel) rfl rfl rfl (by decide +kernel)
set_option maxRecDepth 65536 in
theorem w_c25 : (Jvm.Cond.code ({ cls := "java/util/ArrayList", name := "elementData", desc := "(I)Ljava/lang/Object;" } : Jvm.MethodName) jdk_38_method_18_code (2 : Nat) (Option.some (Jvm.ClassFile.FieldType.object "java/lang/Object"))).before args0 about1 = true := code_word (m := ⟨18, 4⟩) (meth := k18m4) (c := k18c4) (by decide +kernel) rfl rfl rfl (by decide +kernel)
set_option maxRecDepth 65536 in
theorem w_c26 : (Jvm.Cond.code ({ cls := "java/lang/String", name := "equals", desc := "(Ljava/lang/Object;)Z" } : Jvm.MethodName) jdk_42_method_66_code (3 : Nat) (Option.some Jvm.ClassFile.FieldType.boolean)).before args0 about1 = true := code_word (m := ⟨7, 3⟩) (meth := k7m3) (c := k7c3) (by decide +kernel) rfl rfl rfl (by decide +kernel)
set_option maxRecDepth 65536 in
theorem w_c27 : (Jvm.Cond.code ({ cls := "java/lang/StringLatin1", name := "equals", desc := "([B[B)Z" } : Jvm.MethodName) jdk_43_method_13_code (3 : Nat) (Option.some Jvm.ClassFile.FieldType.boolean)).before args0 about1 = true := code_word (m := ⟨9, 3⟩) (meth := k9m3) (c := k9c3) (by decide +kernel) rfl rfl rfl (by decide +kernel)
set_option maxRecDepth 65536 in
theorem w_c28 : (Jvm.Cond.code ({ cls := "java/lang/String", name := "startsWith", desc := "(Ljava/lang/String;)Z" } : Jvm.MethodName) jdk_42_method_76_code (2 : Nat) (Option.some Jvm.ClassFile.FieldType.boolean)).before args0 about1 = true := code_word (m := ⟨7, 5⟩) (meth := k7m5) (c := k7c5) (by decide +kernel) rfl rfl rfl (by decide +kernel)
set_option maxRecDepth 65536 in
theorem w_c29 : (Jvm.Cond.code ({ cls := "java/lang/String", name := "startsWith", desc := "(Ljava/lang/String;I)Z" } : Jvm.MethodName) jdk_42_method_75_code (8 : Nat) (Option.some Jvm.ClassFile.FieldType.boolean)).before args0 about1 = true := code_word (m := ⟨7, 4⟩) (meth := k7m4) (c := k7c4) (by decide +kernel) rfl rfl rfl (by decide +kernel)
set_option maxRecDepth 65536 in
theorem w_c30 : (Jvm.Cond.code ({ cls := "java/lang/String", name := "length", desc := "()I" } : Jvm.MethodName) jdk_42_method_54_code (1 : Nat) (Option.some Jvm.ClassFile.FieldType.int)).before args0 about1 = true := code_word (m := ⟨7, 2⟩) (meth := k7m2) (c := k7c2) (by decide +kernel) rfl rfl rfl (by decide +kernel)
set_option maxRecDepth 65536 in
theorem w_c31 : (Jvm.Cond.code ({ cls := "java/lang/String", name := "coder", desc := "()B" } : Jvm.MethodName) jdk_42_method_152_code (1 : Nat) (Option.some Jvm.ClassFile.FieldType.byte)).before args0 about1 = true := code_word (m := ⟨7, 12⟩) (meth := k7m12) (c := k7c12) (by decide +kernel) rfl rfl rfl (by decide +kernel)
set_option maxRecDepth 65536 in
theorem w_c32 : (Jvm.Cond.code ({ cls := "jdk/internal/util/ArraysSupport", name := "mismatch", desc := "([BI[BII)I" } : Jvm.MethodName) jdk_48_method_14_code (8 : Nat) (Option.some Jvm.ClassFile.FieldType.int)).before args0 about1 = true := code_word (m := ⟨23, 1⟩) (meth := k23m1) (c := k23c1) (by decide +kernel) rfl rfl rfl (by decide +kernel)
set_option maxRecDepth 65536 in
theorem w_c33 : (Jvm.Cond.code ({ cls := "java/lang/String", name := "indexOf", desc := "(I)I" } : Jvm.MethodName) jdk_42_method_79_code (2 : Nat) (Option.some Jvm.ClassFile.FieldType.int)).before args0 about1 = true := code_word (m := ⟨7, 6⟩) (meth := k7m6) (c := k7c6) (by decide +kernel) rfl rfl rfl (by decide +kernel)
set_option maxRecDepth 65536 in
theorem w_c34 : (Jvm.Cond.code ({ cls := "java/lang/String", name := "indexOf", desc := "(II)I" } : Jvm.MethodName) jdk_42_method_80_code (3 : Nat) (Option.some Jvm.ClassFile.FieldType.int)).before args0 about1 = true := code_word (m := ⟨7, 7⟩) (meth := k7m7) (c := k7c7) (by decide +kernel) rfl rfl rfl (by decide +kernel)
set_option maxRecDepth 65536 in
theorem w_c35 : (Jvm.Cond.code ({ cls := "java/lang/String", name := "isLatin1", desc := "()Z" } : Jvm.MethodName) jdk_42_method_154_code (1 : Nat) (Option.some Jvm.ClassFile.FieldType.boolean)).before args0 about1 = true := code_word (m := ⟨7, 13⟩) (meth := k7m13) (c := k7c13) (by decide +kernel) rfl rfl rfl (by decide +kernel)
set_option maxRecDepth 65536 in
theorem w_c36 : (Jvm.Cond.code ({ cls := "java/lang/StringLatin1", name := "indexOf", desc := "([BIII)I" } : Jvm.MethodName) jdk_43_method_22_code (4 : Nat) (Option.some Jvm.ClassFile.FieldType.int)).before args0 about1 = true := code_word (m := ⟨9, 4⟩) (meth := k9m4) (c := k9c4) (by decide +kernel) rfl rfl rfl (by decide +kernel)
set_option maxRecDepth 65536 in
theorem w_c37 : (Jvm.Cond.code ({ cls := "java/lang/StringLatin1", name := "canEncode", desc := "(I)Z" } : Jvm.MethodName) jdk_43_method_4_code (1 : Nat) (Option.some Jvm.ClassFile.FieldType.boolean)).before args0 about1 = true := code_word (m := ⟨9, 2⟩) (meth := k9m2) (c := k9c2) (by decide +kernel) rfl rfl rfl (by decide +kernel)
set_option maxRecDepth 65536 in
theorem w_c38 : (Jvm.Cond.code ({ cls := "java/lang/Math", name := "min", desc := "(II)I" } : Jvm.MethodName) jdk_29_method_69_code (2 : Nat) (Option.some Jvm.ClassFile.FieldType.int)).before args0 about1 = true := code_word (m := ⟨19, 2⟩) (meth := k19m2) (c := k19c2) (by decide +kernel) rfl rfl rfl (by decide +kernel)
set_option maxRecDepth 65536 in
theorem w_c39 : (Jvm.Cond.code ({ cls := "java/lang/StringLatin1", name := "indexOfChar", desc := "([BIII)I" } : Jvm.MethodName) jdk_43_method_23_code (6 : Nat) (Option.some Jvm.ClassFile.FieldType.int)).before args0 about1 = true := code_word (m := ⟨9, 5⟩) (meth := k9m5) (c := k9c5) (by decide +kernel) rfl rfl rfl (by decide +kernel)
set_option maxRecDepth 65536 in
theorem w_c40 : (Jvm.Cond.code ({ cls := "com/example/runqueue/runqueue/Arguments", name := "flag", desc := "()Z" } : Jvm.MethodName) prog_1_method_4_code (1 : Nat) (Option.some Jvm.ClassFile.FieldType.boolean)).before args0 about1 = true := code_word (m := ⟨20, 2⟩) (meth := k20m2) (c := k20c2) (by decide +kernel) rfl rfl rfl (by decide +kernel)
set_option maxRecDepth 65536 in
theorem w_c41 : (Jvm.Cond.code ({ cls := "com/example/runqueue/runqueue/Arguments", name := "lastOperand", desc := "(Ljava/lang/String;)Ljava/lang/String;" } : Jvm.MethodName) prog_1_method_10_code (2 : Nat) (Option.some (Jvm.ClassFile.FieldType.object "java/lang/String"))).before args0 about1 = true := code_word (m := ⟨20, 3⟩) (meth := k20m3) (c := k20c3) (by decide +kernel) rfl rfl rfl (by decide +kernel)
set_option maxRecDepth 65536 in
theorem w_c42 : (Jvm.Cond.code ({ cls := "java/lang/String", name := "substring", desc := "(II)Ljava/lang/String;" } : Jvm.MethodName) jdk_42_method_92_code (5 : Nat) (Option.some (Jvm.ClassFile.FieldType.object "java/lang/String"))).before args0 about1 = true := code_word (m := ⟨7, 8⟩) (meth := k7m8) (c := k7c8) (by decide +kernel) rfl rfl rfl (by decide +kernel)
set_option maxRecDepth 65536 in
theorem w_c43 : (Jvm.Cond.code ({ cls := "java/lang/String", name := "checkBoundsBeginEnd", desc := "(III)V" } : Jvm.MethodName) jdk_42_method_158_code (3 : Nat) (Option.none : Option Jvm.ClassFile.FieldType)).before args0 about1 = true := code_word (m := ⟨7, 14⟩) (meth := k7m14) (c := k7c14) (by decide +kernel) rfl rfl rfl (by decide +kernel)
set_option maxRecDepth 65536 in
theorem w_c44 : (Jvm.Cond.code ({ cls := "jdk/internal/util/Preconditions", name := "checkFromToIndex", desc := "(IIILjava/util/function/BiFunction;)I" } : Jvm.MethodName) jdk_41_method_12_code (4 : Nat) (Option.some Jvm.ClassFile.FieldType.int)).before args0 about1 = true := code_word (m := ⟨22, 2⟩) (meth := k22m2) (c := k22c2) (by decide +kernel) rfl rfl rfl (by decide +kernel)
def codes1 : List Jvm.Cond := [Jvm.Cond.code x code maxLocals ret, Jvm.Cond.code ({ cls := "java/lang/String", name := "<init>", desc := "([C)V" } : Jvm.MethodName) jdk_42_method_3_code (2 : Nat) (Option.none : Option Jvm.ClassFile.FieldType), Jvm.Cond.code ({ cls := "java/lang/String", name := "<init>", desc := "([CIILjava/lang/Void;)V" } : Jvm.MethodName) jdk_42_method_149_code (6 : Nat) (Option.none : Option Jvm.ClassFile.FieldType), Jvm.Cond.code ({ cls := "java/lang/Object", name := "<init>", desc := "()V" } : Jvm.MethodName) object_method_1_code (1 : Nat) (Option.none : Option Jvm.ClassFile.FieldType), Jvm.Cond.code ({ cls := "java/lang/StringUTF16", name := "compress", desc := "([CII)[B" } : Jvm.MethodName) jdk_52_method_16_code (6 : Nat) (Option.some (Jvm.ClassFile.FieldType.array Jvm.ClassFile.FieldType.byte)), Jvm.Cond.code ({ cls := "java/lang/StringUTF16", name := "compress", desc := "([CI[BII)I" } : Jvm.MethodName) jdk_52_method_21_code (7 : Nat) (Option.some Jvm.ClassFile.FieldType.int), Jvm.Cond.code ({ cls := "java/lang/StringUTF16", name := "coderFromArrayLen", desc := "([BI)B" } : Jvm.MethodName) jdk_52_method_15_code (2 : Nat) (Option.some Jvm.ClassFile.FieldType.byte), Jvm.Cond.code ({ cls := "java/lang/String", name := "valueOf", desc := "(C)Ljava/lang/String;" } : Jvm.MethodName) jdk_42_method_139_code (1 : Nat) (Option.some (Jvm.ClassFile.FieldType.object "java/lang/String")), Jvm.Cond.code ({ cls := "java/lang/StringLatin1", name := "canEncode", desc := "(C)Z" } : Jvm.MethodName) jdk_43_method_3_code (1 : Nat) (Option.some Jvm.ClassFile.FieldType.boolean), Jvm.Cond.code ({ cls := "java/lang/StringLatin1", name := "toBytes", desc := "(C)[B" } : Jvm.MethodName) jdk_43_method_46_code (1 : Nat) (Option.some (Jvm.ClassFile.FieldType.array Jvm.ClassFile.FieldType.byte)), Jvm.Cond.code ({ cls := "java/lang/String", name := "<init>", desc := "([BB)V" } : Jvm.MethodName) jdk_42_method_151_code (3 : Nat) (Option.none : Option Jvm.ClassFile.FieldType), Jvm.Cond.code ({ cls := "java/util/ArrayList", name := "<init>", desc := "()V" } : Jvm.MethodName) jdk_38_method_2_code (1 : Nat) (Option.none : Option Jvm.ClassFile.FieldType), Jvm.Cond.code ({ cls := "java/util/AbstractList", name := "<init>", desc := "()V" } : Jvm.MethodName) jdk_39_method_1_code (1 : Nat) (Option.none : Option Jvm.ClassFile.FieldType), Jvm.Cond.code ({ cls := "java/util/AbstractCollection", name := "<init>", desc := "()V" } : Jvm.MethodName) jdk_22_method_1_code (1 : Nat) (Option.none : Option Jvm.ClassFile.FieldType), Jvm.Cond.code ({ cls := "java/util/ArrayList", name := "add", desc := "(Ljava/lang/Object;)Z" } : Jvm.MethodName) jdk_38_method_25_code (2 : Nat) (Option.some Jvm.ClassFile.FieldType.boolean), Jvm.Cond.code ({ cls := "java/util/ArrayList", name := "add", desc := "(Ljava/lang/Object;[Ljava/lang/Object;I)V" } : Jvm.MethodName) jdk_38_method_24_code (4 : Nat) (Option.none : Option Jvm.ClassFile.FieldType), Jvm.Cond.code ({ cls := "java/util/ArrayList", name := "grow", desc := "()[Ljava/lang/Object;" } : Jvm.MethodName) jdk_38_method_7_code (1 : Nat) (Option.some (Jvm.ClassFile.FieldType.array (Jvm.ClassFile.FieldType.object "java/lang/Object"))), Jvm.Cond.code ({ cls := "java/util/ArrayList", name := "grow", desc := "(I)[Ljava/lang/Object;" } : Jvm.MethodName) jdk_38_method_6_code (4 : Nat) (Option.some (Jvm.ClassFile.FieldType.array (Jvm.ClassFile.FieldType.object "java/lang/Object"))), Jvm.Cond.code ({ cls := "java/lang/Math", name := "max", desc := "(II)I" } : Jvm.MethodName) jdk_29_method_65_code (2 : Nat) (Option.some Jvm.ClassFile.FieldType.int), Jvm.Cond.code ({ cls := "com/example/runqueue/runqueue/Arguments", name := "<init>", desc := "(Ljava/util/List;)V" } : Jvm.MethodName) prog_1_method_1_code (2 : Nat) (Option.none : Option Jvm.ClassFile.FieldType), Jvm.Cond.code ({ cls := "com/example/runqueue/runqueue/Arguments", name := "nextOption", desc := "()Ljava/lang/String;" } : Jvm.MethodName) prog_1_method_2_code (3 : Nat) (Option.some (Jvm.ClassFile.FieldType.object "java/lang/String")), Jvm.Cond.code ({ cls := "java/util/ArrayList", name := "size", desc := "()I" } : Jvm.MethodName) jdk_38_method_8_code (1 : Nat) (Option.some Jvm.ClassFile.FieldType.int), Jvm.Cond.code ({ cls := "java/util/ArrayList", name := "get", desc := "(I)Ljava/lang/Object;" } : Jvm.MethodName) jdk_38_method_20_code (2 : Nat) (Option.some (Jvm.ClassFile.FieldType.object "java/lang/Object")), Jvm.Cond.code ({ cls := "java/util/Objects", name := "checkIndex", desc := "(II)I" } : Jvm.MethodName) jdk_31_method_17_code (2 : Nat) (Option.some Jvm.ClassFile.FieldType.int), Jvm.Cond.code ({ cls := "jdk/internal/util/Preconditions", name := "checkIndex", desc := "(IILjava/util/function/BiFunction;)I" } : Jvm.MethodName) jdk_41_method_11_code (3 : Nat) (Option.some Jvm.ClassFile.FieldType.int), Jvm.Cond.code ({ cls := "java/util/ArrayList", name := "elementData", desc := "(I)Ljava/lang/Object;" } : Jvm.MethodName) jdk_38_method_18_code (2 : Nat) (Option.some (Jvm.ClassFile.FieldType.object "java/lang/Object")), Jvm.Cond.code ({ cls := "java/lang/String", name := "equals", desc := "(Ljava/lang/Object;)Z" } : Jvm.MethodName) jdk_42_method_66_code (3 : Nat) (Option.some Jvm.ClassFile.FieldType.boolean), Jvm.Cond.code ({ cls := "java/lang/StringLatin1", name := "equals", desc := "([B[B)Z" } : Jvm.MethodName) jdk_43_method_13_code (3 : Nat) (Option.some Jvm.ClassFile.FieldType.boolean), Jvm.Cond.code ({ cls := "java/lang/String", name := "startsWith", desc := "(Ljava/lang/String;)Z" } : Jvm.MethodName) jdk_42_method_76_code (2 : Nat) (Option.some Jvm.ClassFile.FieldType.boolean), Jvm.Cond.code ({ cls := "java/lang/String", name := "startsWith", desc := "(Ljava/lang/String;I)Z" } : Jvm.MethodName) jdk_42_method_75_code (8 : Nat) (Option.some Jvm.ClassFile.FieldType.boolean), Jvm.Cond.code ({ cls := "java/lang/String", name := "length", desc := "()I" } : Jvm.MethodName) jdk_42_method_54_code (1 : Nat) (Option.some Jvm.ClassFile.FieldType.int), Jvm.Cond.code ({ cls := "java/lang/String", name := "coder", desc := "()B" } : Jvm.MethodName) jdk_42_method_152_code (1 : Nat) (Option.some Jvm.ClassFile.FieldType.byte), Jvm.Cond.code ({ cls := "jdk/internal/util/ArraysSupport", name := "mismatch", desc := "([BI[BII)I" } : Jvm.MethodName) jdk_48_method_14_code (8 : Nat) (Option.some Jvm.ClassFile.FieldType.int), Jvm.Cond.code ({ cls := "java/lang/String", name := "indexOf", desc := "(I)I" } : Jvm.MethodName) jdk_42_method_79_code (2 : Nat) (Option.some Jvm.ClassFile.FieldType.int), Jvm.Cond.code ({ cls := "java/lang/String", name := "indexOf", desc := "(II)I" } : Jvm.MethodName) jdk_42_method_80_code (3 : Nat) (Option.some Jvm.ClassFile.FieldType.int), Jvm.Cond.code ({ cls := "java/lang/String", name := "isLatin1", desc := "()Z" } : Jvm.MethodName) jdk_42_method_154_code (1 : Nat) (Option.some Jvm.ClassFile.FieldType.boolean), Jvm.Cond.code ({ cls := "java/lang/StringLatin1", name := "indexOf", desc := "([BIII)I" } : Jvm.MethodName) jdk_43_method_22_code (4 : Nat) (Option.some Jvm.ClassFile.FieldType.int), Jvm.Cond.code ({ cls := "java/lang/StringLatin1", name := "canEncode", desc := "(I)Z" } : Jvm.MethodName) jdk_43_method_4_code (1 : Nat) (Option.some Jvm.ClassFile.FieldType.boolean), Jvm.Cond.code ({ cls := "java/lang/Math", name := "min", desc := "(II)I" } : Jvm.MethodName) jdk_29_method_69_code (2 : Nat) (Option.some Jvm.ClassFile.FieldType.int), Jvm.Cond.code ({ cls := "java/lang/StringLatin1", name := "indexOfChar", desc := "([BIII)I" } : Jvm.MethodName) jdk_43_method_23_code (6 : Nat) (Option.some Jvm.ClassFile.FieldType.int), Jvm.Cond.code ({ cls := "com/example/runqueue/runqueue/Arguments", name := "flag", desc := "()Z" } : Jvm.MethodName) prog_1_method_4_code (1 : Nat) (Option.some Jvm.ClassFile.FieldType.boolean), Jvm.Cond.code ({ cls := "com/example/runqueue/runqueue/Arguments", name := "lastOperand", desc := "(Ljava/lang/String;)Ljava/lang/String;" } : Jvm.MethodName) prog_1_method_10_code (2 : Nat) (Option.some (Jvm.ClassFile.FieldType.object "java/lang/String")), Jvm.Cond.code ({ cls := "java/lang/String", name := "substring", desc := "(II)Ljava/lang/String;" } : Jvm.MethodName) jdk_42_method_92_code (5 : Nat) (Option.some (Jvm.ClassFile.FieldType.object "java/lang/String")), Jvm.Cond.code ({ cls := "java/lang/String", name := "checkBoundsBeginEnd", desc := "(III)V" } : Jvm.MethodName) jdk_42_method_158_code (3 : Nat) (Option.none : Option Jvm.ClassFile.FieldType), Jvm.Cond.code ({ cls := "jdk/internal/util/Preconditions", name := "checkFromToIndex", desc := "(IIILjava/util/function/BiFunction;)I" } : Jvm.MethodName) jdk_41_method_12_code (4 : Nat) (Option.some Jvm.ClassFile.FieldType.int)]
set_option maxRecDepth 65536 in
theorem codes_eq : words1.filter isCode = codes1 := rfl
theorem w_codes : ∀ c ∈ words1.filter isCode, c.before args0 about1 = true := by
  rw [codes_eq]
  intro c hc
  simp only [codes1, List.mem_cons, List.not_mem_nil, or_false] at hc
  rcases hc with rfl | rfl | rfl | rfl | rfl | rfl | rfl | rfl | rfl | rfl | rfl | rfl | rfl | rfl | rfl | rfl | rfl | rfl | rfl | rfl | rfl | rfl | rfl | rfl | rfl | rfl | rfl | rfl | rfl | rfl | rfl | rfl | rfl | rfl | rfl | rfl | rfl | rfl | rfl | rfl | rfl | rfl | rfl | rfl | rfl
  · exact w_c0
  · exact w_c1
  · exact w_c2
  · exact w_c3
  · exact w_c4
  · exact w_c5
  · exact w_c6
  · exact w_c7
  · exact w_c8
  · exact w_c9
  · exact w_c10
  · exact w_c11
  · exact w_c12
  · exact w_c13
  · exact w_c14
  · exact w_c15
  · exact w_c16
  · exact w_c17
  · exact w_c18
  · exact w_c19
  · exact w_c20
  · exact w_c21
  · exact w_c22
  · exact w_c23
  · exact w_c24
  · exact w_c25
  · exact w_c26
  · exact w_c27
  · exact w_c28
  · exact w_c29
  · exact w_c30
  · exact w_c31
  · exact w_c32
  · exact w_c33
  · exact w_c34
  · exact w_c35
  · exact w_c36
  · exact w_c37
  · exact w_c38
  · exact w_c39
  · exact w_c40
  · exact w_c41
  · exact w_c42
  · exact w_c43
  · exact w_c44
set_option maxRecDepth 65536 in
theorem w_t1 : (words1.take 24).all (fun c => isCode c || c.before args0 about1) = true := by decide +kernel
set_option maxRecDepth 65536 in
theorem w_t2 : ((words1.drop 24).take 24).all (fun c => isCode c || c.before args0 about1) = true := by decide +kernel
set_option maxRecDepth 65536 in
theorem w_t3 : (((words1.drop 24).drop 24).take 24).all (fun c => isCode c || c.before args0 about1) = true := by decide +kernel
set_option maxRecDepth 65536 in
theorem w_t4 : ((((words1.drop 24).drop 24).drop 24).take 24).all (fun c => isCode c || c.before args0 about1) = true := by decide +kernel
set_option maxRecDepth 65536 in
theorem w_t5 : (((((words1.drop 24).drop 24).drop 24).drop 24).take 24).all (fun c => isCode c || c.before args0 about1) = true := by decide +kernel
set_option maxRecDepth 65536 in
theorem w_t6 : ((((((words1.drop 24).drop 24).drop 24).drop 24).drop 24).take 24).all (fun c => isCode c || c.before args0 about1) = true := by decide +kernel
set_option maxRecDepth 65536 in
theorem w_t7 : (((((((words1.drop 24).drop 24).drop 24).drop 24).drop 24).drop 24).take 24).all (fun c => isCode c || c.before args0 about1) = true := by decide +kernel
set_option maxRecDepth 65536 in
theorem w_t8 : ((((((((words1.drop 24).drop 24).drop 24).drop 24).drop 24).drop 24).drop 24).take 24).all (fun c => isCode c || c.before args0 about1) = true := by decide +kernel
set_option maxRecDepth 65536 in
theorem w_t9 : (((((((((words1.drop 24).drop 24).drop 24).drop 24).drop 24).drop 24).drop 24).drop 24).take 24).all (fun c => isCode c || c.before args0 about1) = true := by decide +kernel
set_option maxRecDepth 65536 in
theorem w_t10 : (((((((((words1.drop 24).drop 24).drop 24).drop 24).drop 24).drop 24).drop 24).drop 24).drop 24).all (fun c => isCode c || c.before args0 about1) = true := by decide +kernel
theorem w_tables : (allAtoms (Jvm.Cond.code x code maxLocals ret :: tables_1)).before args0 about1 = true := by
  rw [allAtoms_all]
  show words1.all (fun c => c.before args0 about1) = true
  refine all_split ?_ w_codes
  rw [← List.take_append_drop 24 words1, List.all_append, w_t1, ← List.take_append_drop 24 (words1.drop 24), List.all_append, w_t2, ← List.take_append_drop 24 ((words1.drop 24).drop 24), List.all_append, w_t3, ← List.take_append_drop 24 (((words1.drop 24).drop 24).drop 24), List.all_append, w_t4, ← List.take_append_drop 24 ((((words1.drop 24).drop 24).drop 24).drop 24), List.all_append, w_t5, ← List.take_append_drop 24 (((((words1.drop 24).drop 24).drop 24).drop 24).drop 24), List.all_append, w_t6, ← List.take_append_drop 24 ((((((words1.drop 24).drop 24).drop 24).drop 24).drop 24).drop 24), List.all_append, w_t7, ← List.take_append_drop 24 (((((((words1.drop 24).drop 24).drop 24).drop 24).drop 24).drop 24).drop 24), List.all_append, w_t8, ← List.take_append_drop 24 ((((((((words1.drop 24).drop 24).drop 24).drop 24).drop 24).drop 24).drop 24).drop 24), List.all_append, w_t9, w_t10]
  rfl
set_option maxRecDepth 65536 in
theorem w_rest : rest_1_c.before args0 about1 = true := by decide +kernel
set_option maxRecDepth 65536 in
theorem w_case : (Jvm.Cond.and given_1 narrow_1).before args0 about1 = true := by decide +kernel
set_option maxRecDepth 65536 in
theorem w_consts : constsHeld consts_1 about1 := Jvm.Lit.constsHeldB_iff.mp (by decide +kernel)
theorem w_applies : (headSpec (Jvm.Cond.code x code maxLocals ret :: tables_1) room_1).applies x e0.platform about1 = true :=
  (Spec.applies_iff w_frames).mpr ⟨w_running, w_runnable, w_alone, w_named, w_hears, w_ripe, w_room, w_tables⟩
theorem atStart : AtStart classFile x code maxLocals ret World_1 tables_1 room_1 Calls_1 rest_1 Pre_1 launch0 p0 e0 about1 theMethod args0 below0 :=
  ⟨lists_1, trivial, launch0.admits_env _ _ _, launch0.least_env, fairChoices_fair.cas, fairChoices_fair.clock, w_frames, w_args, w_heap, w_applies, ⟨w_consts, trivial⟩, w_rest, w_case⟩
end start1
theorem witness_1 : WitnessClaimed_1 := ⟨start1.p0, start1.e0, start1.about1, start1.theMethod, start1.args0, start1.below0, start1.atStart⟩
end Jvm.Pilot.@@N@@
