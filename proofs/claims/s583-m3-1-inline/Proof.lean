import JvmDerived
import JvmDerived.Pilot.@@N@@Statement
import JvmDerived.Pilot.@@N@@Code
set_option linter.unusedVariables false
set_option linter.unusedSimpArgs false
@@BLOCK:SetKit.lean.txt@@
namespace Jvm.RoadKit
open Sem ClassFile Op Lib Jvm.Stand Jvm.Free Jvm.LawKit
section New
variable {p : Program} {l : Launch} {e : Env} {R : Room} {s : State} {m : MethodId} {args : Array Value} {below : List Frame} {meth : Method} {c : Code} {T : State} {locs : List Loc} {cells slots : Nat}
theorem retI (X : Stand p l e R s m args below meth c T locs cells slots) (hx : p.tables.exec = Jvm.exec) {pc : Nat} {Ls : Array Slot} {z : Int32} {rest : List Value} (hret : meth.sig.returnType = some .int) (hd : decode c.code pc = .ok (.ireturn, 1)) {fs : List Frame}
    (hl : ∀ (f : JFrame) (acts : List Action), f.method = m → f.locked = none → f.entered = [] → (doReturn e (T.setTop f) acts (some (.int z))).1 = T.setFrames fs) : Steps p.tables e below (T.setTop (mkF m pc Ls (.int z :: rest))) (T.setFrames fs) := by
  have hm' : T.vm.method? m = some meth := X.method'
  have hn : narrow .int (.int z) = .int z := rfl
  show Steps p.tables e below (T.setTop { method := m, pc := pc, locals := Ls, stack := _ :: rest, locked := none }) _
  jvm_step X.here [X.here.top, hx, hd, hm', hret, hn]
  first | (intro acts; rw [hl _ acts rfl rfl rfl]) | rw [hl _ _ rfl rfl rfl]
  exact Steps.refl _
end New
end Jvm.RoadKit
namespace Jvm.Pilot.@@N@@
open Jvm Jvm.ClassFile Sem Op Lib Jvm.Free Jvm.Stand Jvm.LawKit Jvm.RoadKit Bundle Jvm.Pilot.@@N@@.Jvm.D
theorem own_n0 {Z : State} {n0 : Nat} {h : Heap} (O : Old Z n0 h) : n0 ≤ h.size := O.1 ▸ O.2.1
theorem own_born {Z : State} {n0 : Nat} {h : Heap} {b : Addr} (O : Old Z n0 h) (q : h.size ≤ b) : n0 ≤ b := Nat.le_trans (own_n0 O) q
theorem own_eqle {b : Addr} {n : Nat} (q : b = n) : n ≤ b := Nat.le_of_eq q.symm
theorem own_ltn {a b : Addr} {n : Nat} (h : a < n) (q : n ≤ b) : a ≠ b := Nat.ne_of_lt (Nat.lt_of_lt_of_le h q)
theorem own_oldlt {Z : State} {n0 : Nat} {h : Heap} {a : Addr} (O : Old Z n0 h) (q : a < Z.heap.size) : a < h.size := Nat.lt_of_lt_of_le q O.2.1
theorem W {Z : State} {a0 : Array Value} (hw : ∀ d ∈ tables_1, d.before a0 Z = true) (i : Nat) {d : Jvm.Cond} (h : tables_1[i]? = some d) : d.before a0 Z = true := hw d (List.mem_of_getElem? h)
abbrev MF (l : Launch) (Z : State) (h0 : Heap) (y : MethodName) (b : ByteArray) (ml : Nat) (rt : Option FieldType) (ws : List Jvm.Cond) (rm : Room) (as : Array Value) (Q : Option Value → Heap → List Loc → Prop) : Prop :=
  MetFree l y (head1 (Jvm.Cond.code y b ml rt :: ws) rm) (fun a U => a = as ∧ Z.Warmed39 U.vm ∧ U.heap = h0) (fun _ _ _ _ _ => True) (fun _ U o U' => ∃ v L, o = .returned v ∧ Q v U'.heap L ∧ FrameEnd U o U' L rm.cells rm.slots)
section OwnCall
variable {p : Program} {l : Launch} {e : Env} {R : Room} {s : State} {m : MethodId} {args : Array Value} {below : List Frame} {meth : Method} {c : Code} {T : State} {locs : List Loc} {cells slots : Nat} {Z : State} {a0 : Array Value} {h : Heap} {own C : String} {index count : Nat} {y z : MethodName} {bytes : ByteArray} {maxL : Nat} {ret r : Option FieldType} {rm : Room} {argsL : List Value} {Q : Option Value → Heap → List Loc → Prop} {pc W : Nat} {ps : List FieldType} {b : Addr}
theorem cS (X : Stand p l e R s m args below meth c T locs cells slots) (hx : p.tables.exec = Jvm.exec) (hZ : Z.Warmed39 s.vm) (hown : s.vm.findClass own = some m.cls) (w1 : (Jvm.Cond.methodLink own index y).before a0 Z = true) (w2 : (Jvm.Cond.static y).before a0 Z = true) (w3 : (Jvm.Cond.initialized y.cls).before a0 Z = true) (wc : (Jvm.Cond.code y bytes maxL ret).before a0 Z = true) (hy : y.cls ≠ "java/lang/invoke/MethodHandle" ∧ y.cls ≠ "java/lang/invoke/VarHandle")
    (hM : MF l Z h y bytes maxL ret [] rm argsL.toArray Q) (eT : T.heap = h) (Ls : Array Slot) (rest : List Value) (hsz : Ls.size = c.maxLocals) (hd : decode c.code pc = .ok (.invokestatic index, 3)) (pd : parseMethodDescriptor y.desc = some ⟨ps, r⟩) (hl : argsL.length = ps.length)
    (hW : (rest.map fun v => v.category).sum ≤ W) (hf : rm.frames + 1 ≤ R.frames) (hlo : W + (maxL + 11) + rm.locals ≤ R.locals) (hc : cells + rm.cells ≤ R.cells) (hs : slots + rm.slots ≤ R.slots) :
    ∃ v T' L, Stand p l e R s m args below meth c T' (locs ++ L) (cells + rm.cells) (slots + rm.slots) ∧ Q v T'.heap L ∧ ∀ t, Steps p.tables e below (T'.setTop (mkF m (pc + 3) Ls (v.toList ++ rest))) t → Steps p.tables e below (T.setTop (mkF m pc Ls (argsL.reverse ++ rest))) t := by
  obtain ⟨v, _, ⟨T', L', k', n'⟩, -, X', ⟨L, hQ, l1, y1, z1⟩, st⟩ := Jvm.LawKit.callS X hx hown (mvT hZ w1) (mvT hZ w2) (mvT hZ w3) (mvT hZ wc) hy (backOf (W := W) hM hZ wc w3 hf hlo) (g := mkF m pc Ls (argsL.reverse ++ rest)) rfl hsz (argsL := argsL) (rest := rest) (lenOf pd hl) rfl (by show 2 * 0 + _ ≤ _; omega) hd (fun _ _ => ⟨rfl, eT, hc, hs⟩)
  dsimp only [Pt.U, Pt.locs, Pt.cells, Pt.slots] at X' l1 y1 z1 st hQ
  subst l1 y1 z1
  exact ⟨v, T', L, X', hQ, st⟩
theorem cV (X : Stand p l e R s m args below meth c T locs cells slots) (hx : p.tables.exec = Jvm.exec) (hZ : Z.Warmed39 s.vm) (hown : s.vm.findClass own = some m.cls) (w1 : (Jvm.Cond.methodLink own index y).before a0 Z = true) (w2 : (Jvm.Cond.declares y).before a0 Z = true) (nf : NotFace s y) (w4 : (Jvm.Cond.selects C y z).before a0 Z = true) (w5 : (Jvm.Cond.instanceMethod z).before a0 Z = true) (wc : (Jvm.Cond.code z bytes maxL ret).before a0 Z = true) (w3 : (Jvm.Cond.initialized z.cls).before a0 Z = true) (hy : y.cls ≠ "java/lang/invoke/MethodHandle" ∧ y.cls ≠ "java/lang/invoke/VarHandle")
    (hM : MF l Z h z bytes maxL ret [] rm (Value.ref b :: argsL).toArray Q) (eT : T.heap = h) (E : Exa Z h b C) (Ls : Array Slot) (rest : List Value) (hsz : Ls.size = c.maxLocals) (hd : decode c.code pc = .ok (.invokevirtual index, 3)) (pd : parseMethodDescriptor y.desc = some ⟨ps, r⟩) (hl : argsL.length = ps.length)
    (hW : (rest.map fun v => v.category).sum ≤ W) (hf : rm.frames + 1 ≤ R.frames) (hlo : W + (maxL + 11) + rm.locals ≤ R.locals) (hc : cells + rm.cells ≤ R.cells) (hs : slots + rm.slots ≤ R.slots) :
    ∃ v T' L, Stand p l e R s m args below meth c T' (locs ++ L) (cells + rm.cells) (slots + rm.slots) ∧ Q v T'.heap L ∧ ∀ t, Steps p.tables e below (T'.setTop (mkF m (pc + 3) Ls (v.toList ++ rest))) t → Steps p.tables e below (T.setTop (mkF m pc Ls (argsL.reverse ++ Value.ref b :: rest))) t := by
  obtain ⟨cB, kB, q1, q2, q3⟩ := isOf hZ eT E
  obtain ⟨v, _, ⟨T', L', k', n'⟩, -, X', ⟨L, hQ, l1, y1, z1⟩, st⟩ := X.virtualBack hx hown (mvT hZ w1) (mvT hZ w2) nf (mvT hZ w4) (mvT hZ w5) hy (backOf (W := W) hM hZ wc w3 hf hlo) q1 q3 (g := mkF m pc Ls (argsL.reverse ++ Value.ref b :: rest)) rfl hsz (Steps.refl _) (argsL := argsL) (rest := rest) (lenOf pd hl) rfl (by show 2 * 0 + _ ≤ _; omega) hd (fun _ _ => ⟨rfl, eT, hc, hs⟩)
  dsimp only [Pt.U, Pt.locs, Pt.cells, Pt.slots] at X' l1 y1 z1 st hQ
  subst l1 y1 z1
  exact ⟨v, T', L, X', hQ, fun t k => st.trans k⟩
theorem cI (X : Stand p l e R s m args below meth c T locs cells slots) (hx : p.tables.exec = Jvm.exec) (hZ : Z.Warmed39 s.vm) (hown : s.vm.findClass own = some m.cls) (w1 : (Jvm.Cond.methodLink own index y).before a0 Z = true) (w5 : (Jvm.Cond.instanceMethod y).before a0 Z = true) (wc : (Jvm.Cond.code y bytes maxL none).before a0 Z = true) (w3 : (Jvm.Cond.initialized y.cls).before a0 Z = true) (hn : y.name = "<init>") (hy : y.cls ≠ "java/lang/invoke/MethodHandle" ∧ y.cls ≠ "java/lang/invoke/VarHandle")
    (hM : MF l Z h y bytes maxL none [] rm (Value.ref b :: argsL).toArray Q) (eT : T.heap = h) (Ls : Array Slot) (rest : List Value) (hsz : Ls.size = c.maxLocals) (hd : decode c.code pc = .ok (.invokespecial index, 3)) (pd : parseMethodDescriptor y.desc = some ⟨ps, r⟩) (hl : argsL.length = ps.length)
    (hW : (rest.map fun v => v.category).sum ≤ W) (hf : rm.frames + 1 ≤ R.frames) (hlo : W + (maxL + 11) + rm.locals ≤ R.locals) (hc : cells + rm.cells ≤ R.cells) (hs : slots + rm.slots ≤ R.slots) :
    ∃ v T' L, Stand p l e R s m args below meth c T' (locs ++ L) (cells + rm.cells) (slots + rm.slots) ∧ Q v T'.heap L ∧ ∀ t, Steps p.tables e below (T'.setTop (mkF m (pc + 3) Ls (v.toList ++ rest))) t → Steps p.tables e below (T.setTop (mkF m pc Ls (argsL.reverse ++ Value.ref b :: rest))) t := by
  obtain ⟨v, _, ⟨T', L', k', n'⟩, -, X', ⟨L, hQ, l1, y1, z1⟩, st⟩ := X.specialBack hx hn hown (mvT hZ w1) (mvT hZ w5) (mvT hZ wc) hy (backOf (W := W) hM hZ wc w3 hf hlo) (g := mkF m pc Ls (argsL.reverse ++ Value.ref b :: rest)) rfl hsz (Steps.refl _) (a := b) (argsL := argsL) (rest := rest) (lenOf pd hl) rfl (by show 2 * 0 + _ ≤ _; omega) hd (fun _ _ => ⟨rfl, eT, hc, hs⟩)
  dsimp only [Pt.U, Pt.locs, Pt.cells, Pt.slots] at X' l1 y1 z1 st hQ
  subst l1 y1 z1
  exact ⟨v, T', L, X', hQ, fun t k => st.trans k⟩
theorem cF (X : Stand p l e R s m args below meth c T locs cells slots) (hx : p.tables.exec = Jvm.exec) (hZ : Z.Warmed39 s.vm) (hown : s.vm.findClass own = some m.cls) (w1 : (Jvm.Cond.methodLink own index y).before a0 Z = true) (w2 : (Jvm.Cond.declares y).before a0 Z = true) (wi : (Jvm.Cond.interfaceMethod y.cls y.cls y.name y.desc).before args s = true) (w4 : (Jvm.Cond.selects C y z).before a0 Z = true) (w5 : (Jvm.Cond.instanceMethod z).before a0 Z = true) (w6 : (Jvm.Cond.publicMethod z).before a0 Z = true) (w7 : (Jvm.Cond.unhidden C y.name y.desc).before a0 Z = true) (w8 : (Jvm.Cond.castable C y.cls).before a0 Z = true) (wc : (Jvm.Cond.code z bytes maxL ret).before a0 Z = true) (w3 : (Jvm.Cond.initialized z.cls).before a0 Z = true) (hy : y.cls ≠ "java/lang/invoke/MethodHandle" ∧ y.cls ≠ "java/lang/invoke/VarHandle")
    (hM : MF l Z h z bytes maxL ret [] rm (Value.ref b :: argsL).toArray Q) (eT : T.heap = h) (E : Exa Z h b C) (Ls : Array Slot) (rest : List Value) (hsz : Ls.size = c.maxLocals) (hd : decode c.code pc = .ok (.invokeinterface index count, 5)) (pd : parseMethodDescriptor y.desc = some ⟨ps, r⟩) (hl : argsL.length = ps.length)
    (hW : (rest.map fun v => v.category).sum ≤ W) (hf : rm.frames + 1 ≤ R.frames) (hlo : W + (maxL + 11) + rm.locals ≤ R.locals) (hc : cells + rm.cells ≤ R.cells) (hs : slots + rm.slots ≤ R.slots) :
    ∃ v T' L, Stand p l e R s m args below meth c T' (locs ++ L) (cells + rm.cells) (slots + rm.slots) ∧ Q v T'.heap L ∧ ∀ t, Steps p.tables e below (T'.setTop (mkF m (pc + 5) Ls (v.toList ++ rest))) t → Steps p.tables e below (T.setTop (mkF m pc Ls (argsL.reverse ++ Value.ref b :: rest))) t := by
  obtain ⟨cB, kB, q1, q2, q3⟩ := isOf hZ eT E
  obtain ⟨v, _, ⟨T', L', k', n'⟩, -, X', ⟨L, hQ, l1, y1, z1⟩, st⟩ := X.interfaceBack hx hown (mvT hZ w1) (mvT hZ w2) wi (mvT hZ w4) (mvT hZ w5) (mvT hZ w6) (mvT hZ w7) (mvT hZ w8) hy (backOf (W := W) hM hZ wc w3 hf hlo) q1 q2 q3 (g := mkF m pc Ls (argsL.reverse ++ Value.ref b :: rest)) rfl hsz (Steps.refl _) (argsL := argsL) (rest := rest) (lenOf pd hl) rfl (by show 2 * 0 + _ ≤ _; omega) hd (fun _ _ => ⟨rfl, eT, hc, hs⟩)
  dsimp only [Pt.U, Pt.locs, Pt.cells, Pt.slots] at X' l1 y1 z1 st hQ
  subst l1 y1 z1
  exact ⟨v, T', L, X', hQ, fun t k => st.trans k⟩
end OwnCall
abbrev vi (x : Int32) : Slot := .val (.int x)
abbrev vr (x : Addr) : Slot := .val (.ref x)
def own_minI (x y : Int32) : Int32 := if y < x then y else x
def own_maxI (x y : Int32) : Int32 := if x < y then y else x
def own_minJ (x y : Int64) : Int64 := if y < x then y else x
def own_se (x y a b : Int32) : Int32 := if x = y then a else b
def own_sl (x y a b : Int32) : Int32 := if x < y then a else b
def own_seJ (x y : Int32) (a b : Int64) : Int64 := if x = y then a else b
def own_slJ (x y : Int32) (a b : Int64) : Int64 := if x < y then a else b
theorem own_narb (x : Int32) (h : x = 0 ∨ x = 1) : nar .boolean x = x := by
  rcases h with rfl | rfl <;> decide
section OwnHeld
variable {p : Program} {l : Launch} {e : Env} {R : Room} {s : State} {m : MethodId} {args : Array Value} {below : List Frame} {meth : Method} {c : Code} {T : State} {locs : List Loc} {cells slots : Nat} {Z : State} {a0 : Array Value} {EL : List (String × Nat)} {h h' : Heap} {vm vm0 vm1 : Vm} {n0 N : Nat}
def own_CH (Z : State) (EL : List (String × Nat)) (n0 : Nat) (vm : Vm) (h : Heap) : Prop := CHv Z EL vm h ∧ ∀ x, n0 ≤ x → Safe Z EL vm h x
theorem own_CH.keep (K : Keep h h' ([] : List Addr)) (H : own_CH Z EL n0 vm h) : own_CH Z EL n0 vm h' :=
  have A := H.1.keepStep K (fun _ hx => by cases hx)
  ⟨A.1, fun x hx B => H.2 x hx (A.2 x B)⟩
theorem own_CH.at (X : Stand p l e R (s.setVm vm0) m args below meth c T locs cells slots) (hZ : Z.Warmed39 vm0) (w : EW Z a0 EL) (H : own_CH Z EL n0 vm0 h) : own_CH Z EL n0 T.vm h :=
  have A := CHv.at X hZ w H.1
  ⟨A.1, fun x hx B => (A.2.2 x B).elim (H.2 x hx) (fun q => Safe.new q B)⟩
theorem own_backOfSH {y : MethodName} {bytes : ByteArray} {maxL : Nat} {ret : Option FieldType} {rm : Room} {len W : Nat} {as' : Array Value} {Q : Option Value → Heap → List Loc → Prop}
    (hM : MetFree l y (head1 [Cond.code y bytes maxL ret] rm) (fun a U => a = as' ∧ Z.Warmed39 U.vm ∧ U.heap = h ∧ own_CH Z EL n0 U.vm h) (fun _ _ _ _ _ => True) (fun _ U o U' => ∃ v L, o = .returned v ∧ Q v U'.heap L ∧ ReturnedEndW U o U' L rm.cells rm.slots))
    (hZ : Z.Warmed39 vm0) (wc : (Cond.code y bytes maxL ret).before a0 Z = true) (wz : (Cond.initialized y.cls).before a0 Z = true) (hf : rm.frames + 1 ≤ R.frames) (hl : W + (maxL + 11) + rm.locals ≤ R.locals) (hEL : EW Z a0 EL) (H : own_CH Z EL n0 vm0 h) :
    BackS l R p e below (s.setVm vm0) args y len W (fun A a => a = as' ∧ A.U.heap = h ∧ A.cells + rm.cells ≤ R.cells ∧ A.slots + rm.slots ≤ R.slots)
      (fun A _ v B => ∃ L, Q v B.U.heap L ∧ B.locs = A.locs ++ L ∧ B.cells = A.cells + rm.cells ∧ B.slots = A.slots + rm.slots) :=
  BackS.of_freeW (bytes := bytes) (maxL := maxL) (ret := ret) (E := fun _ _ o t L k n => k = rm.cells ∧ n = rm.slots ∧ ∃ v, o = .returned v ∧ Q v t.heap L) hM hf hl
    (fun m meth c A a Y hp => have hU : Z.Warmed39 A.U.vm := wtrans (s := s.setVm vm0) hZ Y.warmed
      ⟨by show (Cond.and _ .tt).before a A.U = true; rw [Cond.before_and, mv hU wc]; rfl, mv hU wc, mv hU wz, hp.2.2.1, hp.2.2.2⟩)
    (fun m meth c A a g mk Y hp => ⟨hp.1, wtrans (s := s.setVm vm0) hZ Y.warmed, hp.2.1, (show own_CH Z EL n0 A.U.vm h from own_CH.at Y hZ hEL H)⟩) (fun _ _ _ _ _ _ _ _ _ => trivial)
    (fun _ _ _ _ ⟨v, L, h1, h2, h3⟩ => ⟨L, _, _, h3, rfl, rfl, v, h1, h2⟩)
    (fun m meth c A a g mk v t L k n Y hp _ _ ⟨e1, e2, v', e3, e4⟩ => by cases e3; subst e1 e2; exact ⟨L, e4, rfl, rfl, rfl⟩)
def own_CS (Z : State) (EL : List (String × Nat)) (n0 N : Nat) (vm : Vm) (h : Heap) : Prop := CHv Z EL vm h ∧ ∀ x, n0 ≤ x → x < N → Safe Z EL vm h x
theorem own_CS.start (H : own_CH Z EL n0 vm h) : own_CS Z EL n0 N vm h := ⟨H.1, fun x hx _ => H.2 x hx⟩
theorem own_CS.ldc (H : own_CS Z EL n0 N vm h) (A : CHr Z EL vm h vm1 h') (hN : N ≤ h.size) : own_CS Z EL n0 N vm1 h' := ⟨A.1, fun x hx hn => A.safe (Nat.lt_of_lt_of_le hn hN) (H.2 x hx hn)⟩
theorem own_CS.ext (H : own_CS Z EL n0 N vm h) (E : Ext h h') : own_CS Z EL n0 N vm h' := ⟨H.1.ext E, fun x a b => Safe.ext E H.1 (H.2 x a b)⟩
theorem own_CS.wr {a : Addr} {sl : Nat} {v : Value} (H : own_CS Z EL n0 N vm h) (W : Wr h h' a sl v) (ha : n0 ≤ a) (hb : a < N) : own_CS Z EL n0 N vm h' :=
  ⟨H.1.wr W (H.2 a ha hb), fun x p q => Safe.wr W (H.2 a ha hb) H.1 (H.2 x p q)⟩
theorem own_CS.keep {ws : List Addr} (H : own_CS Z EL n0 N vm h) (K : Keep h h' ws) (hs : ∀ x ∈ ws, n0 ≤ x ∧ x < N) : own_CS Z EL n0 N vm h' :=
  ⟨H.1.keep K (fun x hx => H.2 x (hs x hx).1 (hs x hx).2), fun x p q => Safe.keep K (fun x hx => H.2 x (hs x hx).1 (hs x hx).2) H.1 (H.2 x p q)⟩
end OwnHeld

theorem own_nat256 (c : Int32) (h0 : ¬ c < 0) (h1 : ¬ (255 : Int32) < c) : ∃ i : Fin 256, c = Int32.ofNat i.val := by
  have e0 : (0 : Int) ≤ c.toInt := by
    rw [Int32.lt_iff_toInt_lt] at h0
    simpa using h0
  have e1 : c.toInt ≤ 255 := by
    rw [Int32.lt_iff_toInt_lt] at h1
    simpa using h1
  refine ⟨⟨c.toInt.toNat, by omega⟩, ?_⟩
  apply Int32.toInt_inj.mp
  have e2 : c.toInt.toNat < 2 ^ 31 := by omega
  show c.toInt = (Int32.ofNat c.toInt.toNat).toInt
  rw [Int32.toInt_ofNat_of_lt e2]
  omega
theorem own_255 (x : Int32) : ¬ (255 : Int32) < (x &&& (255 : Int32)) := by
  rw [Int32.lt_iff_toBitVec_slt, Int32.toBitVec_and]
  intro h
  have e : (x.toBitVec &&& (255 : Int32).toBitVec).toNat ≤ 255 := by
    rw [BitVec.toNat_and]
    exact Nat.and_le_right
  generalize (x.toBitVec &&& (255 : Int32).toBitVec) = y at h e
  simp [BitVec.slt, BitVec.toInt] at h
  omega
theorem own_and0 (x : Int32) : ¬ (x &&& (255 : Int32)) < 0 := by
  rw [Int32.lt_iff_toBitVec_slt, Int32.toBitVec_and]
  intro h
  have e : (x.toBitVec &&& (255 : Int32).toBitVec).toNat ≤ 255 := by
    rw [BitVec.toNat_and]
    exact Nat.and_le_right
  generalize (x.toBitVec &&& (255 : Int32).toBitVec) = y at h e
  simp [BitVec.slt, BitVec.toInt] at h
  omega
theorem own_and3 (x k : Int32) (h : k = x &&& (3 : Int32)) : k = 0 ∨ k = 1 ∨ k = 2 ∨ k = 3 := by
  have e : (x.toBitVec &&& (3 : Int32).toBitVec).toNat ≤ 3 := by
    rw [BitVec.toNat_and]
    exact Nat.and_le_right
  have q : k.toBitVec.toNat = 0 ∨ k.toBitVec.toNat = 1 ∨ k.toBitVec.toNat = 2 ∨ k.toBitVec.toNat = 3 := by
    rw [h, Int32.toBitVec_and]
    generalize (x.toBitVec &&& (3 : Int32).toBitVec) = y at e
    omega
  rcases q with q | q | q | q
  · exact Or.inl (Int32.toBitVec_inj.mp (BitVec.eq_of_toNat_eq q))
  · exact Or.inr (Or.inl (Int32.toBitVec_inj.mp (BitVec.eq_of_toNat_eq q)))
  · exact Or.inr (Or.inr (Or.inl (Int32.toBitVec_inj.mp (BitVec.eq_of_toNat_eq q))))
  · exact Or.inr (Or.inr (Or.inr (Int32.toBitVec_inj.mp (BitVec.eq_of_toNat_eq q))))
theorem own_c1 (c : Int32) (h0 : ¬ c < 0) (h1 : ¬ (255 : Int32) < c) : ¬ (255 : Int32) < nar .char c := by
  obtain ⟨i, rfl⟩ := own_nat256 c h0 h1
  revert i; decide +kernel
def own_fl (l : List Int32) (j : Nat) : Int32 := l.getD j 0
def own_ss (x : Int32) : Int32 := Jvm.Free.SBG.strSizeOf x
def own_N (x : Int32) : Nat := x.toInt.natAbs
def own_dn (x : Int32) : Nat := Jvm.Free.SBG.digits (own_N x)
def own_sg (x : Int32) : Nat := Jvm.Free.SBG.GetChars.sgn x
theorem own_ltz (x : Int32) : x < 0 ↔ x.toInt < 0 := by
  rw [Int32.lt_iff_toInt_lt]; exact Iff.rfl
theorem own_Nle (x : Int32) : own_N x ≤ 2 ^ 31 := by
  have hb1 := Int32.le_toInt x
  have hb2 := Int32.toInt_lt x
  unfold own_N; omega
theorem own_neg (x : Int32) : (if x < 0 then x else -x) = Jvm.Free.SBG.negI (own_N x) := by
  have hb1 := Int32.le_toInt x
  have hb2 := Int32.toInt_lt x
  have hN := own_Nle x
  apply Int32.toInt_inj.mp
  rw [Jvm.Free.SBG.negI_toInt hN]
  by_cases hx : x < 0
  · have h := (own_ltz x).mp hx
    rw [if_pos hx]; unfold own_N; omega
  · have h : ¬ x.toInt < 0 := fun q => hx ((own_ltz x).mpr q)
    rw [if_neg hx, Int32.toInt_neg, Jvm.Free.SBG.bm (by omega) (by omega)]; unfold own_N; omega
theorem own_ss_eq (x : Int32) : own_ss x = Int32.ofNat (own_dn x + own_sg x) := Jvm.Free.SBG.strSizeOf_eq (own_Nle x) (own_neg x)
theorem own_dn_b (x : Int32) : 1 ≤ own_dn x ∧ own_dn x ≤ 10 := Jvm.Free.SBG.digits_pos _
theorem own_sg_neg {x : Int32} (h : x < 0) : own_sg x = 1 := if_pos h
theorem own_sg_pos {x : Int32} (h : ¬ x < 0) : own_sg x = 0 := if_neg h
theorem own_sg_b (x : Int32) : own_sg x ≤ 1 := by
  by_cases h : x < 0
  · rw [own_sg_neg h]; exact Nat.le_refl _
  · rw [own_sg_pos h]; exact Nat.zero_le _
theorem own_ofN {n : Nat} (h : n < 100) : (Int32.ofNat n).toInt = n := Int32.toInt_ofNat_of_lt (by omega)
theorem own_ss_int (x : Int32) : (own_ss x).toInt = own_dn x + own_sg x := by
  have := own_dn_b x
  have := own_sg_b x
  rw [own_ss_eq, own_ofN (by omega)]; omega
theorem own_add_int {k y : Int32} (hk : k = 0 ∨ k = 1 ∨ k = 2 ∨ k = 3) (h0 : 0 ≤ y.toInt) (h1 : y.toInt ≤ 20) : (k + y).toInt = k.toInt + y.toInt := by
  rw [Int32.toInt_add]
  rcases hk with rfl | rfl | rfl | rfl
  · exact Jvm.Free.SBG.bm (by show -2 ^ 31 ≤ (0 : Int) + y.toInt; omega) (by show (0 : Int) + y.toInt < 2 ^ 31; omega)
  · exact Jvm.Free.SBG.bm (by show -2 ^ 31 ≤ (1 : Int) + y.toInt; omega) (by show (1 : Int) + y.toInt < 2 ^ 31; omega)
  · exact Jvm.Free.SBG.bm (by show -2 ^ 31 ≤ (2 : Int) + y.toInt; omega) (by show (2 : Int) + y.toInt < 2 ^ 31; omega)
  · exact Jvm.Free.SBG.bm (by show -2 ^ 31 ≤ (3 : Int) + y.toInt; omega) (by show (3 : Int) + y.toInt < 2 ^ 31; omega)
theorem own_k_int {k : Int32} (hk : k = 0 ∨ k = 1 ∨ k = 2 ∨ k = 3) : 0 ≤ k.toInt ∧ k.toInt ≤ 3 := by
  rcases hk with rfl | rfl | rfl | rfl <;> decide
theorem own_n_int {x k n : Int32} (hn : n = k + own_ss x) (hk : k = 0 ∨ k = 1 ∨ k = 2 ∨ k = 3) : n.toInt = k.toInt + (own_dn x + own_sg x) := by
  have := own_dn_b x
  have := own_sg_b x
  have e := own_ss_int x
  rw [hn, own_add_int hk (by omega) (by omega), e]
theorem own_16 : (16 : Int32).toInt = 16 := rfl
theorem own_0i : (0 : Int32).toInt = 0 := rfl
theorem own_L (x k : Int32) (hk : k = 0 ∨ k = 1 ∨ k = 2 ∨ k = 3) : ¬ (k + own_ss x) < 0 ∧ (k + own_ss x) < 16 ∧ ¬ (k + own_ss x) = 16 ∧ ¬ (k + own_ss x) < own_ss x ∧ ¬ 16 < (k + own_ss x) ∧ ¬ 0 < ((k + own_ss x) - 16) := by
  have hd := own_dn_b x
  have hg := own_sg_b x
  have e := own_ss_int x
  have q := own_n_int (x := x) rfl hk
  have b := own_k_int hk
  generalize (k + own_ss x) = n at q ⊢
  have t : (n - 16).toInt = n.toInt - 16 := by
    rw [Int32.toInt_sub]; exact Jvm.Free.SBG.bm (by rw [own_16]; omega) (by rw [own_16]; omega)
  refine ⟨?_, ?_, ?_, ?_, ?_, ?_⟩
  · rw [Int32.lt_iff_toInt_lt, own_0i]; omega
  · rw [Int32.lt_iff_toInt_lt, own_16]; omega
  · intro h; rw [h, own_16] at q; omega
  · rw [Int32.lt_iff_toInt_lt]; omega
  · rw [Int32.lt_iff_toInt_lt, own_16]; omega
  · rw [Int32.lt_iff_toInt_lt, own_0i, t]; omega
theorem own_L0 (x : Int32) : ¬ (own_ss x) < 0 ∧ (own_ss x) < 16 ∧ ¬ (own_ss x) = 16 ∧ ¬ (own_ss x) < own_ss x ∧ ¬ 16 < (own_ss x) ∧ ¬ 0 < ((own_ss x) - 16) := by
  have q := own_L x 0 (Or.inl rfl)
  rw [Int32.zero_add] at q; exact q
-- the magnitude
def own_absJ (q : Int64) : Int64 := if lcmpW q 0 < 0 then -q else q
def own_digs (m : Int64) : Int32 := if lcmpW m 10 < 0 then 1 else if lcmpW m 100 < 0 then 2 else if lcmpW m 1000 < 0 then 3 else if lcmpW m 10000 < 0 then 4 else if lcmpW m 100000 < 0 then 5 else if lcmpW m 1000000 < 0 then 6 else if lcmpW m 10000000 < 0 then 7 else if lcmpW m 100000000 < 0 then 8 else if lcmpW m 1000000000 < 0 then 9 else 10
theorem own_abs_int (x : Int32) : (own_absJ (x.toInt64)).toInt = own_N x := by
  have hb1 := Int32.le_toInt x
  have hb2 := Int32.toInt_lt x
  have e : (x.toInt64).toInt = x.toInt := Int32.toInt_toInt64 x
  have z : (0 : Int64).toInt = 0 := rfl
  unfold own_absJ
  by_cases h : lcmpW x.toInt64 0 < 0
  · have h' := Int64.lt_iff_toInt_lt.mp ((lw_lt _ _).mp h)
    rw [if_pos h, Int64.toInt_neg, e, Int.bmod_eq_of_le (by omega) (by omega)]
    unfold own_N; omega
  · have h' : ¬ (x.toInt64).toInt < (0 : Int64).toInt := fun q => h ((lw_lt _ _).mpr (Int64.lt_iff_toInt_lt.mpr q))
    rw [if_neg h, e]
    unfold own_N; omega
theorem own_digs_eq (x : Int32) : own_digs (own_absJ (x.toInt64)) = Int32.ofNat (own_dn x) := by
  have e := own_abs_int x
  generalize own_absJ (x.toInt64) = m at e ⊢
  have c : ∀ (t : Int64) (u : Nat), t.toInt = u → (lcmpW m t < 0 ↔ own_N x < u) := fun t u ht => by
    rw [lw_lt, Int64.lt_iff_toInt_lt, e, ht]; omega
  unfold own_digs own_dn Jvm.Free.SBG.digits
  simp only [c 10 10 rfl, c 100 100 rfl, c 1000 1000 rfl, c 10000 10000 rfl, c 100000 100000 rfl, c 1000000 1000000 rfl, c 10000000 10000000 rfl, c 100000000 100000000 rfl, c 1000000000 1000000000 rfl]
  repeat' split
  all_goals rfl
theorem own_digs_int (x : Int32) : (own_digs (own_absJ (x.toInt64))).toInt = own_dn x := by
  have := own_dn_b x
  rw [own_digs_eq, own_ofN (by omega)]
theorem own_tot {x k : Int32} (hk : k = 0 ∨ k = 1 ∨ k = 2 ∨ k = 3) (t : Int32) (ht : t.toInt = k.toInt + own_sg x) : (k + own_ss x) = (t + own_digs (own_absJ (x.toInt64))) := by
  have hd := own_dn_b x
  have hg := own_sg_b x
  have b := own_k_int hk
  apply Int32.toInt_inj.mp
  rw [own_n_int (x := x) rfl hk, Int32.toInt_add, own_digs_int, ht, Jvm.Free.SBG.bm (by omega) (by omega)]
  omega
theorem own_tot1 (x k : Int32) (h : x < 0) (hk : k = 0 ∨ k = 1 ∨ k = 2 ∨ k = 3) (t : Int32) (ht : t.toInt = k.toInt + 1) : (k + own_ss x) = (t + own_digs (own_absJ (x.toInt64))) := own_tot hk t (by rw [own_sg_neg h]; exact ht)
theorem own_tot0 (x k : Int32) (h : ¬ x < 0) (hk : k = 0 ∨ k = 1 ∨ k = 2 ∨ k = 3) (t : Int32) (ht : t.toInt = k.toInt + 0) : (k + own_ss x) = (t + own_digs (own_absJ (x.toInt64))) := own_tot hk t (by rw [own_sg_pos h]; exact ht)
theorem own_tot1z (x : Int32) (h : x < 0) : own_ss x = (1 + own_digs (own_absJ (x.toInt64))) := by
  have q := own_tot1 x 0 h (Or.inl rfl) 1 rfl
  rw [Int32.zero_add] at q; exact q
theorem own_tot0z (x : Int32) (h : ¬ x < 0) : own_ss x = (own_digs (own_absJ (x.toInt64))) := by
  have q := own_tot0 x 0 h (Or.inl rfl) 0 rfl
  rw [Int32.zero_add, Int32.zero_add] at q; exact q
-- the array behind getChars
def own_gr (x idx : Int32) : Int32 := Int32.ofNat (idx.toNatClampNeg - (own_dn x + own_sg x))
def own_gc (x idx : Int32) (f : Nat → Int32) (j : Nat) : Int32 :=
  if j < idx.toNatClampNeg - (own_dn x + own_sg x) ∨ idx.toNatClampNeg ≤ j then f j
  else if x < 0 ∧ j = idx.toNatClampNeg - own_dn x - 1 then 45 else Int32.ofNat (48 + own_N x / 10 ^ (idx.toNatClampNeg - 1 - j) % 10)
def own_p10 (k : Int32) : Int64 := if k = 0 then 1 else if k = 1 then 10 else if k = 2 then 100 else if k = 3 then 1000 else if k = 4 then 10000 else if k = 5 then 100000 else if k = 6 then 1000000 else if k = 7 then 10000000 else if k = 8 then 100000000 else 1000000000
theorem own_p10_ne (k : Int32) : own_p10 k ≠ 0 := by
  unfold own_p10
  repeat' split
  all_goals decide
theorem own_ten {k : Int32} (h0 : ¬ k < 0) (h1 : k < 10) : ∃ t : Fin 10, k = Int32.ofNat t.val := by
  rw [Int32.lt_iff_toInt_lt] at h0 h1
  have e0 : (0 : Int32).toInt = 0 := rfl
  have e1 : (10 : Int32).toInt = 10 := rfl
  refine ⟨⟨k.toInt.toNat, by omega⟩, ?_⟩
  apply Int32.toInt_inj.mp
  show k.toInt = (Int32.ofNat k.toInt.toNat).toInt
  rw [Int32.toInt_ofNat_of_lt (by omega)]; omega
theorem own_p10_pow : ∀ t : Fin 10, (own_p10 (Int32.ofNat t.val)).toInt = ((10 ^ t.val : Nat) : Int) := by decide +kernel
theorem own_clamp {i : Int32} (h : 0 ≤ i.toInt) : (i.toNatClampNeg : Int) = i.toInt := by
  simp only [Int32.toNatClampNeg]; omega
-- a digit
theorem own_chr : ∀ t : Fin 10, nar .char (nar .char (((Int32.ofNat (48 + t.val)) &&& (255 : Int32)).toUInt32.toUInt16.toUInt32.toInt32)) = Int32.ofNat (48 + t.val) := by decide +kernel
theorem own_chs : ∀ t : Fin 10, nar .char ((((48 : Int64) + Int64.ofNat t.val).toInt32).toUInt32.toUInt16.toUInt32.toInt32) = Int32.ofNat (48 + t.val) := by decide +kernel
theorem own_chn : nar .char (nar .char (((45 : Int32) &&& (255 : Int32)).toUInt32.toUInt16.toUInt32.toInt32)) = 45 := by decide
theorem own_dig_eq (x : Int32) (t : Fin 10) (j : Int32) (hj : j = Int32.ofNat t.val) : ((own_absJ (x.toInt64) / own_p10 j) - ((own_absJ (x.toInt64) / own_p10 j) / (10 : Int64)) * (10 : Int64)) = Int64.ofNat (own_N x / 10 ^ t.val % 10) := by
  subst hj
  have hN := own_Nle x
  have e := own_abs_int x
  have p := own_p10_pow t
  have ne := own_p10_ne (Int32.ofNat t.val)
  generalize own_absJ (x.toInt64) = m at e ⊢
  generalize own_p10 (Int32.ofNat t.val) = P at p ne ⊢
  have pp : 0 < 10 ^ t.val := Nat.pow_pos (by decide)
  generalize 10 ^ t.val = Q at p pp ⊢
  have hq : own_N x / Q ≤ own_N x := Nat.div_le_self _ _
  have n1 : P ≠ -1 := fun q => by
    rw [q] at p
    have : (-1 : Int64).toInt = -1 := rfl
    omega
  have d1 : (m / P).toInt = ((own_N x / Q : Nat) : Int) := by
    rw [Int64.toInt_div_of_ne_right _ _ n1, e, p]; rfl
  generalize m / P = y at d1 ⊢
  generalize own_N x / Q = w at d1 hq ⊢
  have d2 : (y / 10).toInt = ((w / 10 : Nat) : Int) := by
    rw [Int64.toInt_div_of_ne_right _ _ (by decide), d1]; rfl
  have d3 : ((y / 10) * 10).toInt = ((w / 10 * 10 : Nat) : Int) := by
    rw [Int64.toInt_mul, d2]
    show (((w / 10 : Nat) : Int) * 10).bmod (2 ^ 64) = _
    rw [Int.bmod_eq_of_le (by omega) (by omega)]; omega
  apply Int64.toInt_inj.mp
  rw [Int64.toInt_sub, d3, d1, Int64.toInt_ofNat_of_lt (by omega), Int.bmod_eq_of_le (by omega) (by omega)]
  omega
theorem own_gc_dig {x n : Int32} {f : Nat → Int32} {i : Nat} (h0 : ¬ i < n.toNatClampNeg - (own_dn x + own_sg x)) (h1 : ¬ n.toNatClampNeg ≤ i) (h2 : ¬ (x < 0 ∧ i = n.toNatClampNeg - own_dn x - 1)) :
    own_gc x n f i = Int32.ofNat (48 + own_N x / 10 ^ (n.toNatClampNeg - 1 - i) % 10) := by
  unfold own_gc
  rw [if_neg (fun q => q.elim h0 h1), if_neg h2]
theorem own_idx {x k i n : Int32} (hn : n = k + own_ss x) (hk : k = 0 ∨ k = 1 ∨ k = 2 ∨ k = 3) (hi : k.toInt + own_sg x ≤ i.toInt ∧ i.toInt ≤ 13) (h : i < n) :
    (n.toNatClampNeg : Int) = k.toInt + (own_dn x + own_sg x) ∧ (i.toNatClampNeg : Int) = i.toInt ∧ i.toInt < k.toInt + (own_dn x + own_sg x) ∧ 0 ≤ k.toInt ∧ k.toInt ≤ 3 := by
  have b := own_k_int hk
  have e := own_n_int hn hk
  have h' := Int32.lt_iff_toInt_lt.mp h
  refine ⟨?_, own_clamp (by omega), by omega, b.1, b.2⟩
  rw [own_clamp (by omega), e]
theorem own_j0 {x k i n : Int32} (hn : n = k + own_ss x) (hk : k = 0 ∨ k = 1 ∨ k = 2 ∨ k = 3) (hi : k.toInt + own_sg x ≤ i.toInt ∧ i.toInt ≤ 13) (h : i < n) (hs : own_sg x = 0) :
    (((own_digs (own_absJ (x.toInt64))) - (1 : Int32)) - (i - k)).toInt = (n.toNatClampNeg : Int) - 1 - i.toNatClampNeg := by
  obtain ⟨a, b, c, d, e⟩ := own_idx hn hk hi h
  have q := own_dn_b x
  have o : (1 : Int32).toInt = 1 := rfl
  have t1 : (own_digs (own_absJ (x.toInt64)) - 1).toInt = own_dn x - 1 := by
    rw [Int32.toInt_sub, own_digs_int, o, Jvm.Free.SBG.bm (by omega) (by omega)]
  have t2 : (i - k).toInt = i.toInt - k.toInt := by
    rw [Int32.toInt_sub, Jvm.Free.SBG.bm (by omega) (by omega)]
  rw [Int32.toInt_sub, t1, t2, Jvm.Free.SBG.bm (by omega) (by omega)]
  omega
theorem own_j1 {x k i n : Int32} (hn : n = k + own_ss x) (hk : k = 0 ∨ k = 1 ∨ k = 2 ∨ k = 3) (hi : k.toInt + own_sg x ≤ i.toInt ∧ i.toInt ≤ 13) (h : i < n) (hs : own_sg x = 1) :
    (((own_digs (own_absJ (x.toInt64))) - (1 : Int32)) - ((i - k) - (1 : Int32))).toInt = (n.toNatClampNeg : Int) - 1 - i.toNatClampNeg := by
  obtain ⟨a, b, c, d, e⟩ := own_idx hn hk hi h
  have q := own_dn_b x
  have o : (1 : Int32).toInt = 1 := rfl
  have t1 : (own_digs (own_absJ (x.toInt64)) - 1).toInt = own_dn x - 1 := by
    rw [Int32.toInt_sub, own_digs_int, o, Jvm.Free.SBG.bm (by omega) (by omega)]
  have t2 : (i - k).toInt = i.toInt - k.toInt := by
    rw [Int32.toInt_sub, Jvm.Free.SBG.bm (by omega) (by omega)]
  have t3 : ((i - k) - 1).toInt = i.toInt - k.toInt - 1 := by
    rw [Int32.toInt_sub, t2, o, Jvm.Free.SBG.bm (by omega) (by omega)]
  rw [Int32.toInt_sub, t1, t3, Jvm.Free.SBG.bm (by omega) (by omega)]
  omega
theorem own_same_dig {x k i n J : Int32} {f : Nat → Int32} (hn : n = k + own_ss x) (hk : k = 0 ∨ k = 1 ∨ k = 2 ∨ k = 3) (hi : k.toInt + own_sg x ≤ i.toInt ∧ i.toInt ≤ 13) (h : i < n) (hJ : J.toInt = (n.toNatClampNeg : Int) - 1 - i.toNatClampNeg) :
    ¬ J < 0 ∧ J < 10 ∧ (nar .char (nar .char (((own_gc x n f (i).toNatClampNeg) &&& (255 : Int32)).toUInt32.toUInt16.toUInt32.toInt32))) = (nar .char ((((48 : Int64) + ((own_absJ (x.toInt64) / own_p10 J) - ((own_absJ (x.toInt64) / own_p10 J) / (10 : Int64)) * (10 : Int64))).toInt32).toUInt32.toUInt16.toUInt32.toInt32)) := by
  obtain ⟨a, b, c, d, e⟩ := own_idx hn hk hi h
  have q := own_dn_b x
  have g := own_sg_b x
  have z : (0 : Int32).toInt = 0 := rfl
  have z' : (10 : Int32).toInt = 10 := rfl
  have h1 : ¬ J < 0 := by rw [Int32.lt_iff_toInt_lt]; omega
  have h2 : J < 10 := by rw [Int32.lt_iff_toInt_lt]; omega
  refine ⟨h1, h2, ?_⟩
  obtain ⟨t, ht⟩ := own_ten h1 h2
  have ht' : J.toInt = t.val := by rw [ht, own_ofN (by omega)]
  rw [own_dig_eq x t J ht, own_gc_dig (by omega) (by omega) (fun w => by
    have := own_sg_neg w.1
    omega), show n.toNatClampNeg - 1 - i.toNatClampNeg = t.val by omega]
  have m10 : own_N x / 10 ^ t.val % 10 < 10 := Nat.mod_lt _ (by decide)
  generalize own_N x / 10 ^ t.val % 10 = r at m10
  rw [own_chr ⟨r, m10⟩, own_chs ⟨r, m10⟩]
theorem own_hi0 {x k i : Int32} (hi : k.toInt + 0 ≤ i.toInt ∧ i.toInt ≤ 13) (hs : ¬ x < 0) : k.toInt + own_sg x ≤ i.toInt ∧ i.toInt ≤ 13 := by rw [own_sg_pos hs]; exact hi
theorem own_hi1 {x k i : Int32} (hi : k.toInt + 1 ≤ i.toInt ∧ i.toInt ≤ 13) (hs : x < 0) : k.toInt + own_sg x ≤ i.toInt ∧ i.toInt ≤ 13 := by rw [own_sg_neg hs]; exact hi
theorem own_dlo0 {x k i n : Int32} (hn : n = k + own_ss x) (hk : k = 0 ∨ k = 1 ∨ k = 2 ∨ k = 3) (hi : k.toInt + 0 ≤ i.toInt ∧ i.toInt ≤ 13) (hs : ¬ x < 0) (h : i < n) : ¬ ((((own_digs (own_absJ (x.toInt64))) - (1 : Int32)) - (i - k)) < (0 : Int32)) :=
  (own_same_dig (f := fun _ => 0) hn hk (own_hi0 hi hs) h (own_j0 hn hk (own_hi0 hi hs) h (own_sg_pos hs))).1
theorem own_dhi0 {x k i n : Int32} (hn : n = k + own_ss x) (hk : k = 0 ∨ k = 1 ∨ k = 2 ∨ k = 3) (hi : k.toInt + 0 ≤ i.toInt ∧ i.toInt ≤ 13) (hs : ¬ x < 0) (h : i < n) : (((own_digs (own_absJ (x.toInt64))) - (1 : Int32)) - (i - k)) < (10 : Int32) :=
  (own_same_dig (f := fun _ => 0) hn hk (own_hi0 hi hs) h (own_j0 hn hk (own_hi0 hi hs) h (own_sg_pos hs))).2.1
theorem own_deq0 {x k i n : Int32} {f : Nat → Int32} (hn : n = k + own_ss x) (hk : k = 0 ∨ k = 1 ∨ k = 2 ∨ k = 3) (hi : k.toInt + 0 ≤ i.toInt ∧ i.toInt ≤ 13) (hs : ¬ x < 0) (h : i < n) :
    (nar .char (nar .char (((own_gc x n f (i).toNatClampNeg) &&& (255 : Int32)).toUInt32.toUInt16.toUInt32.toInt32))) = (nar .char ((((48 : Int64) + ((own_absJ (x.toInt64) / own_p10 (((own_digs (own_absJ (x.toInt64))) - (1 : Int32)) - (i - k))) - ((own_absJ (x.toInt64) / own_p10 (((own_digs (own_absJ (x.toInt64))) - (1 : Int32)) - (i - k))) / (10 : Int64)) * (10 : Int64))).toInt32).toUInt32.toUInt16.toUInt32.toInt32)) :=
  (own_same_dig hn hk (own_hi0 hi hs) h (own_j0 hn hk (own_hi0 hi hs) h (own_sg_pos hs))).2.2
theorem own_dlo1 {x k i n : Int32} (hn : n = k + own_ss x) (hk : k = 0 ∨ k = 1 ∨ k = 2 ∨ k = 3) (hi : k.toInt + 1 ≤ i.toInt ∧ i.toInt ≤ 13) (hs : x < 0) (h : i < n) : ¬ ((((own_digs (own_absJ (x.toInt64))) - (1 : Int32)) - ((i - k) - (1 : Int32))) < (0 : Int32)) :=
  (own_same_dig (f := fun _ => 0) hn hk (own_hi1 hi hs) h (own_j1 hn hk (own_hi1 hi hs) h (own_sg_neg hs))).1
theorem own_dhi1 {x k i n : Int32} (hn : n = k + own_ss x) (hk : k = 0 ∨ k = 1 ∨ k = 2 ∨ k = 3) (hi : k.toInt + 1 ≤ i.toInt ∧ i.toInt ≤ 13) (hs : x < 0) (h : i < n) : (((own_digs (own_absJ (x.toInt64))) - (1 : Int32)) - ((i - k) - (1 : Int32))) < (10 : Int32) :=
  (own_same_dig (f := fun _ => 0) hn hk (own_hi1 hi hs) h (own_j1 hn hk (own_hi1 hi hs) h (own_sg_neg hs))).2.1
theorem own_deq1 {x k i n : Int32} {f : Nat → Int32} (hn : n = k + own_ss x) (hk : k = 0 ∨ k = 1 ∨ k = 2 ∨ k = 3) (hi : k.toInt + 1 ≤ i.toInt ∧ i.toInt ≤ 13) (hs : x < 0) (h : i < n) :
    (nar .char (nar .char (((own_gc x n f (i).toNatClampNeg) &&& (255 : Int32)).toUInt32.toUInt16.toUInt32.toInt32))) = (nar .char ((((48 : Int64) + ((own_absJ (x.toInt64) / own_p10 (((own_digs (own_absJ (x.toInt64))) - (1 : Int32)) - ((i - k) - (1 : Int32)))) - ((own_absJ (x.toInt64) / own_p10 (((own_digs (own_absJ (x.toInt64))) - (1 : Int32)) - ((i - k) - (1 : Int32)))) / (10 : Int64)) * (10 : Int64))).toInt32).toUInt32.toUInt16.toUInt32.toInt32)) :=
  (own_same_dig hn hk (own_hi1 hi hs) h (own_j1 hn hk (own_hi1 hi hs) h (own_sg_neg hs))).2.2
theorem own_mi {x k n : Int32} {f : Nat → Int32} (hn : n = k + own_ss x) (hk : k = 0 ∨ k = 1 ∨ k = 2 ∨ k = 3) (hs : x < 0) (h : k < n) : (nar .char (nar .char (((own_gc x n f (k).toNatClampNeg) &&& (255 : Int32)).toUInt32.toUInt16.toUInt32.toInt32))) = (45 : Int32) := by
  have b := own_k_int hk
  have e := own_n_int hn hk
  have q := own_dn_b x
  have g := own_sg_neg hs
  have c1 := own_clamp b.1
  have c2 := own_clamp (i := n) (by omega)
  unfold own_gc
  rw [if_neg (by omega), if_pos ⟨hs, by omega⟩]
  exact own_chn
theorem own_fl_get (l : List Int32) (j : Nat) : own_fl l j = l.getD j 0 := rfl
theorem own_cc : ∀ t : Fin 256, nar .char (nar .char (((nar .byte ((nar .char (Int32.ofNat t.val)).toInt8.toInt32)) &&& (255 : Int32)).toUInt32.toUInt16.toUInt32.toInt32)) = nar .char (Int32.ofNat t.val) := by decide +kernel
theorem own_nm {x k i c n : Int32} {l : List Int32} (hn : n = k + own_ss x) (hk : k = 0 ∨ k = 1 ∨ k = 2 ∨ k = 3) (hi : 0 ≤ i.toInt ∧ i.toInt < k.toInt) (hl : own_fl l i.toNatClampNeg = nar .byte ((nar .char c).toInt8.toInt32)) (h0 : ¬ c < 0) (h1 : ¬ (255 : Int32) < c) (h : i < n) :
    (nar .char (nar .char (((own_gc x n (own_fl l) (i).toNatClampNeg) &&& (255 : Int32)).toUInt32.toUInt16.toUInt32.toInt32))) = nar .char c := by
  have b := own_k_int hk
  have e := own_n_int hn hk
  have q := own_dn_b x
  have g := own_sg_b x
  have c1 := own_clamp hi.1
  have c2 := own_clamp (i := n) (by omega)
  unfold own_gc
  rw [if_pos (Or.inl (by omega)), hl]
  obtain ⟨t, rfl⟩ := own_nat256 c h0 h1
  exact own_cc t
theorem own_lnb {k : Int32} (hk : k = 0 ∨ k = 1 ∨ k = 2 ∨ k = 3) : ¬ k < 0 ∧ k < 16 ∧ ¬ 0 < (k - 16) := by
  rcases hk with rfl | rfl | rfl | rfl <;> decide
theorem own_totG (x k : Int32) (hk : k = 0 ∨ k = 1 ∨ k = 2 ∨ k = 3) : (k + own_ss x) = ((k + own_sl x 0 1 0) + own_digs (own_absJ (x.toInt64))) := by
  refine own_tot hk _ ?_
  have b := own_k_int hk
  rw [Int32.toInt_add]
  by_cases h : x < 0
  · rw [own_sg_neg h, own_sl, if_pos h]
    exact Jvm.Free.SBG.bm (by show -2 ^ 31 ≤ k.toInt + 1; omega) (by show k.toInt + 1 < 2 ^ 31; omega)
  · rw [own_sg_pos h, own_sl, if_neg h]
    exact Jvm.Free.SBG.bm (by show -2 ^ 31 ≤ k.toInt + 0; omega) (by show k.toInt + 0 < 2 ^ 31; omega)
def own_cut (n : Int32) (f : Nat → Int32) (j : Nat) : Int32 := if j < n.toNatClampNeg then f j else 0
def own_xd (mag : Int64) (k : Int32) : Int32 := nar .char ((((48 : Int64) + ((mag / (own_p10 k)) - ((mag / (own_p10 k)) / (10 : Int64)) * (10 : Int64))).toInt32).toUInt32.toUInt16.toUInt32.toInt32)
def own_exp (i c0 c1 c2 len sign d : Int32) (mag : Int64) : Int32 :=
  if i < len then (if i = (0 : Int32) then nar .char c0 else if i = (1 : Int32) then nar .char c1 else nar .char c2)
  else if sign = (1 : Int32) then (if (i - len) = (0 : Int32) then (45 : Int32) else own_xd mag ((d - (1 : Int32)) - ((i - len) - (1 : Int32))))
  else own_xd mag ((d - (1 : Int32)) - (i - len))
def own_OK (n : Int32) (f : Nat → Int32) (c0 c1 c2 len sign d : Int32) (mag : Int64) (i : Int32) : Prop := i < n →
  (¬ (i < len) → sign = (1 : Int32) → ¬ ((i - len) = (0 : Int32)) → ¬ (((d - (1 : Int32)) - ((i - len) - (1 : Int32))) < (0 : Int32)) ∧ ((d - (1 : Int32)) - ((i - len) - (1 : Int32))) < (10 : Int32)) ∧
  (¬ (i < len) → ¬ (sign = (1 : Int32)) → ¬ (((d - (1 : Int32)) - (i - len)) < (0 : Int32)) ∧ ((d - (1 : Int32)) - (i - len)) < (10 : Int32)) ∧
  (nar .char (nar .char (((f (i).toNatClampNeg) &&& (255 : Int32)).toUInt32.toUInt16.toUInt32.toInt32))) = own_exp i c0 c1 c2 len sign d mag
theorem own_le13 {x k i : Int32} (hk : k = 0 ∨ k = 1 ∨ k = 2 ∨ k = 3) (h : i < k + own_ss x) : i.toInt ≤ 13 := by
  have b := own_k_int hk
  have e := own_n_int (x := x) rfl hk
  have q := own_dn_b x
  have g := own_sg_b x
  rw [Int32.lt_iff_toInt_lt] at h
  omega
theorem own_sub0 {i k : Int32} (h : (i - k) = 0) : i = k := by
  have := congrArg (· + k) h
  simpa [Int32.sub_add_cancel] using this
theorem own_nmf {x k i c n : Int32} {f : Nat → Int32} (hn : n = k + own_ss x) (hk : k = 0 ∨ k = 1 ∨ k = 2 ∨ k = 3) (hi : 0 ≤ i.toInt ∧ i.toInt < k.toInt) (hl : f i.toNatClampNeg = nar .byte ((nar .char c).toInt8.toInt32)) (h0 : ¬ c < 0) (h1 : ¬ (255 : Int32) < c) :
    (nar .char (nar .char (((own_gc x n (own_cut k f) (i).toNatClampNeg) &&& (255 : Int32)).toUInt32.toUInt16.toUInt32.toInt32))) = nar .char c := by
  have b := own_k_int hk
  have e := own_n_int hn hk
  have q := own_dn_b x
  have g := own_sg_b x
  have c1 := own_clamp hi.1
  have c2 := own_clamp (i := n) (by omega)
  have c3 := own_clamp b.1
  unfold own_gc
  rw [if_pos (Or.inl (by omega))]
  unfold own_cut
  rw [if_pos (by omega), hl]
  obtain ⟨t, rfl⟩ := own_nat256 c h0 h1
  exact own_cc t
theorem own_main {x k ca cb cc : Int32} {l : List Int32} (hk : k = 0 ∨ k = 1 ∨ k = 2 ∨ k = 3)
    (hl : (0 < k → own_fl l 0 = nar .byte ((nar .char ca).toInt8.toInt32)) ∧ (1 < k → own_fl l 1 = nar .byte ((nar .char cb).toInt8.toInt32)) ∧ (2 < k → own_fl l 2 = nar .byte ((nar .char cc).toInt8.toInt32)))
    (a0 : ¬ ca < 0) (a1 : ¬ (255 : Int32) < ca) (b0 : ¬ cb < 0) (b1 : ¬ (255 : Int32) < cb) (d0 : ¬ cc < 0) (d1 : ¬ (255 : Int32) < cc) :
    ∀ i : Int32, ¬ i < 0 → i < 16 → own_OK (k + own_ss x) (own_gc x (k + own_ss x) (own_cut k (own_fl l))) ca cb cc k (own_sl x 0 1 0) (own_digs (own_absJ (x.toInt64))) (own_absJ (x.toInt64)) i := by
  intro i hi0 _ h
  have b := own_k_int hk
  have h13 := own_le13 hk h
  have i0 : 0 ≤ i.toInt := by
    rw [Int32.lt_iff_toInt_lt, own_0i] at hi0; omega
  have s1 : own_sl x 0 1 0 = 1 ↔ x < 0 := by
    unfold own_sl
    by_cases hx : x < 0
    · rw [if_pos hx]; exact ⟨fun _ => hx, fun _ => rfl⟩
    · rw [if_neg hx]; exact ⟨fun q => absurd q (by decide), fun q => absurd q hx⟩
  have ge : ¬ i < k → k.toInt ≤ i.toInt := fun q => by rw [Int32.lt_iff_toInt_lt] at q; omega
  have ne1 : ¬ i < k → ¬ (i - k) = 0 → k.toInt + 1 ≤ i.toInt := fun q r => by
    have g := ge q
    have : k.toInt ≠ i.toInt := fun w => r (by rw [Int32.toInt_inj.mp w]; exact Int32.sub_self _)
    omega
  refine ⟨fun q1 q2 q3 => ?_, fun q1 q2 => ?_, ?_⟩
  · have hx := s1.mp q2
    exact ⟨own_dlo1 rfl hk ⟨ne1 q1 q3, h13⟩ hx h, own_dhi1 rfl hk ⟨ne1 q1 q3, h13⟩ hx h⟩
  · have hx : ¬ x < 0 := fun w => q2 (s1.mpr w)
    exact ⟨own_dlo0 rfl hk ⟨by have := ge q1; omega, h13⟩ hx h, own_dhi0 rfl hk ⟨by have := ge q1; omega, h13⟩ hx h⟩
  · unfold own_exp
    by_cases q1 : i < k
    · rw [if_pos q1]
      have lt : i.toInt < k.toInt := Int32.lt_iff_toInt_lt.mp q1
      by_cases z0 : i = 0
      · rw [if_pos z0]
        subst z0
        exact own_nmf rfl hk ⟨i0, lt⟩ (hl.1 q1) a0 a1
      · rw [if_neg z0]
        by_cases z1 : i = 1
        · rw [if_pos z1]
          subst z1
          exact own_nmf rfl hk ⟨i0, lt⟩ (hl.2.1 q1) b0 b1
        · rw [if_neg z1]
          have z2 : i = 2 := by
            have e0 : i.toInt ≠ 0 := fun w => z0 (Int32.toInt_inj.mp w)
            have e1 : i.toInt ≠ 1 := fun w => z1 (Int32.toInt_inj.mp w)
            have e2 : i.toInt = 2 := by omega
            exact Int32.toInt_inj.mp e2
          subst z2
          exact own_nmf rfl hk ⟨i0, lt⟩ (hl.2.2 q1) d0 d1
    · rw [if_neg q1]
      by_cases hx : x < 0
      · rw [if_pos (s1.mpr hx)]
        by_cases z : (i - k) = 0
        · rw [if_pos z]
          have e := own_sub0 z
          subst e
          exact own_mi rfl hk hx h
        · rw [if_neg z]
          exact own_deq1 rfl hk ⟨ne1 q1 z, h13⟩ hx h
      · rw [if_neg (fun w => hx (s1.mp w))]
        exact own_deq0 rfl hk ⟨by have := ge q1; omega, h13⟩ hx h
def own_bs (f : Nat → Int32) : List Value := (List.range 16).map fun j => Value.int (f j)
theorem own_bs_get (f : Nat → Int32) {i : Nat} (h : i < 16) (d : Value) : (own_bs f).getD i d = .int (f i) := by
  unfold own_bs
  rw [List.getD_eq_getElem?_getD, List.getElem?_map, List.getElem?_range h]; rfl
theorem own_bs_out (f : Nat → Int32) {i : Nat} (h : ¬ i < 16) (d : Value) : (own_bs f).getD i d = d := by
  unfold own_bs
  rw [List.getD_eq_getElem?_getD, List.getElem?_eq_none (by simp; omega)]; rfl
theorem own_bs_of (l : List Int32) (hl : l.length ≤ 16) : ∀ i, (own_bs (own_fl l)).getD i (.int 0) = (l.map Value.int).getD i (.int 0) := fun i => by
  by_cases h : i < 16
  · rw [own_bs_get _ h]
    unfold own_fl
    rw [List.getD_eq_getElem?_getD, List.getD_eq_getElem?_getD, List.getElem?_map]
    cases l[i]? <;> rfl
  · rw [own_bs_out _ h, List.getD_eq_getElem?_getD, List.getElem?_eq_none (by simp; omega)]; rfl
theorem own_cap {z : Int32} (h : z < 16) : z.toNatClampNeg ≤ 16 := by
  rw [Int32.lt_iff_toInt_lt, own_16] at h
  simp only [Int32.toNatClampNeg]; omega
theorem own_clt {z : Int32} (h : z < 16) : z.toNatClampNeg < 16 := by
  rw [Int32.lt_iff_toInt_lt, own_16] at h
  simp only [Int32.toNatClampNeg]; omega
theorem own_bs_at (f : Nat → Int32) (d : Value) (j : Int32) (h : j < 16) : (own_bs f).getD j.toNatClampNeg d = .int (f j.toNatClampNeg) := own_bs_get f (own_clt h) d
theorem own_isub0 (x : Int32) : x - (0 : Int32) = x := Int32.sub_zero x
theorem own_ishr0 (x : Int32) : x >>> ((0 : Int32) &&& 31) = x := by
  rw [show ((0 : Int32) &&& 31) = 0 from by decide]; exact Int32.shiftRight_zero
theorem own_ishl0 (x : Int32) : x <<< ((0 : Int32) &&& 31) = x := by
  rw [show ((0 : Int32) &&& 31) = 0 from by decide]; exact Int32.shiftLeft_zero
theorem own_z0 : (0 : Int32).toNatClampNeg = 0 := rfl
theorem own_ac1 {n : Int32} (h : n < 16) : (0 : Int32).toNatClampNeg + n.toNatClampNeg ≤ (16 : Int32).toNatClampNeg := by
  have := own_cap h
  rw [own_z0, show (16 : Int32).toNatClampNeg = 16 from rfl]; omega
theorem own_ac2 {n : Int32} (h : ¬ n < 0) : (0 : Int32).toNatClampNeg + n.toNatClampNeg ≤ n.toNatClampNeg := by rw [own_z0]; omega
theorem own_ac3 {n : Int32} (h : n < 16) : (0 : Int32).toNatClampNeg + n.toNatClampNeg ≤ 16 := by
  have := own_cap h
  rw [own_z0]; omega
theorem own_padL {Z : State} {h : Heap} {a : Addr} {k : ClassId} {ty : FieldType} {z : Int32} {vs vs' : List Value} {dv : Value} (F : Arv Z h a k ty z vs dv) (q : ∀ i, i < z.toNatClampNeg → vs'.getD i dv = vs.getD i dv) : Arv Z h a k ty z vs' dv := by
  obtain ⟨c, A, r1, r2, r3, H, G⟩ := F
  exact ⟨c, A, r1, r2, r3, fun i hi => by rw [q i (r2 ▸ hi)]; exact H i hi, fun i hi => by rw [q i (r2 ▸ hi)]; exact G i hi⟩
theorem own_copied {Z : State} {h : Heap} {b : Addr} {k : ClassId} {n : Int32} {f : Nat → Int32} {vd : List Value} {dv dd : Value} (V : Arv Z h b k .byte n (vd.take (0 : Int32).toNatClampNeg ++ (List.range n.toNatClampNeg).map (fun i => (own_bs f).getD ((0 : Int32).toNatClampNeg + i) dv) ++ vd.drop ((0 : Int32).toNatClampNeg + n.toNatClampNeg)) dd) (hn : n < 16) : Arv Z h b k .byte n (own_bs f) dd := by
  have hb := own_cap hn
  refine own_padL V fun i hi => ?_
  rw [own_bs_get f (by omega) dd, own_z0, List.take_zero, List.nil_append, List.getD_eq_getElem?_getD, List.getElem?_append_left (by simpa using hi), List.getElem?_map, List.getElem?_range hi]
  show _ = (own_bs f).getD (0 + i) dv
  rw [Nat.zero_add, own_bs_get f (by omega) dv]
theorem own_copied2 {Z : State} {h : Heap} {b : Addr} {k : ClassId} {n : Int32} {f : Nat → Int32} {vd : List Value} (V : Arv Z h b k .byte (16 : Int32) (vd.take (0 : Int32).toNatClampNeg ++ (List.range n.toNatClampNeg).map (fun i => (own_bs f).getD ((0 : Int32).toNatClampNeg + i) (.int (0 : Int32))) ++ vd.drop ((0 : Int32).toNatClampNeg + n.toNatClampNeg)) (.int (0 : Int32))) (hn : n < 16) (hv : vd = List.replicate 16 (.int (0 : Int32))) : Arv Z h b k .byte (16 : Int32) (own_bs (own_cut n f)) (.int (0 : Int32)) := by
  have hb := own_cap hn
  subst hv
  refine own_padL V fun i hi => ?_
  have hi16 : i < 16 := hi
  rw [own_bs_get _ hi16, own_z0, List.take_zero, List.nil_append, List.getD_eq_getElem?_getD]
  unfold own_cut
  by_cases c : i < n.toNatClampNeg
  · rw [if_pos c, List.getElem?_append_left (by simpa using c), List.getElem?_map, List.getElem?_range c]
    show _ = (own_bs f).getD (0 + i) _
    rw [Nat.zero_add, own_bs_get f hi16]
  · rw [if_neg c, List.getElem?_append_right (by simp; omega), List.getElem?_drop, List.getElem?_replicate]
    split <;> rfl
theorem own_mapJ (l : List Int64) (i : Nat) (d : Int64) : (l.map Value.long).getD i (.long d) = .long (l.getD i d) := by
  rw [List.getD_eq_getElem?_getD, List.getD_eq_getElem?_getD, List.getElem?_map]
  cases l[i]? <;> rfl
theorem own_p10_list : ∀ t : Fin 10, ([1, 10, 100, 1000, 10000, 100000, 1000000, 10000000, 100000000, 1000000000] : List Int64).getD (Int32.ofNat t.val).toNatClampNeg 0 = own_p10 (Int32.ofNat t.val) := by decide +kernel
theorem own_p10_at (k : Int32) (h0 : ¬ k < 0) (h1 : k < 10) : ([(.long (1 : Int64)), (.long (10 : Int64)), (.long (100 : Int64)), (.long (1000 : Int64)), (.long (10000 : Int64)), (.long (100000 : Int64)), (.long (1000000 : Int64)), (.long (10000000 : Int64)), (.long (100000000 : Int64)), (.long (1000000000 : Int64))] : List Value).getD k.toNatClampNeg (.long (0 : Int64)) = .long (own_p10 k) := by
  obtain ⟨t, rfl⟩ := own_ten h0 h1
  exact (own_mapJ [1, 10, 100, 1000, 10000, 100000, 1000000, 10000000, 100000000, 1000000000] _ 0).trans (congrArg Value.long (own_p10_list t))
def own_SF (Z : State) : Prop := ∃ v : Value, Sta Z Z.heap "jdk/internal/util/Preconditions" "SIOOBE_FORMATTER" "Ljava/util/function/BiFunction;" v ∧ (v = .null ∨ ∃ a, v = .ref a)
def own_Tab (Z : State) : Prop := ∃ (st d1 : Addr) (D1 : Cell) (d2 : Addr) (D2 : Cell), Jvm.Free.SBG.Tbl Z "DigitOnes" st d1 D1 ∧ Jvm.Free.SBG.Ones D1 ∧ Jvm.Free.SBG.Tbl Z "DigitTens" st d2 D2 ∧ Jvm.Free.SBG.Tens D2
theorem own_selP {s : State} {a : Array Value} {C : String} {y : MethodName} (h : (Jvm.Cond.selects C y y).before a s = true) (hp : s.PrivateAt y) (hi : (Jvm.Cond.instanceMethod y).before a s = true) (hy : y.cls ≠ "java/lang/invoke/MethodHandle" ∧ y.cls ≠ "java/lang/invoke/VarHandle") : (Jvm.Cond.selects y.cls y y).before a s = true := by
  obtain ⟨c, r, m, -, -, h3, -, mk, h5, h6⟩ := Cond.selects_spec h
  exact selects_self_of_private (findClass_of_methodNamed h3) h5 h6 hp hi hy
theorem own_same {s : State} {a : Array Value} {C : String} {y z : MethodName} (hd : (Jvm.Cond.instanceMethod y).before a s = true) (hs : (Jvm.Cond.selects C z z).before a s = true) (hc : z.cls = y.cls) (hy : y.cls ≠ "java/lang/invoke/MethodHandle" ∧ y.cls ≠ "java/lang/invoke/VarHandle") : (Jvm.Cond.sameMethod y.cls y.cls y.name y.desc).before a s = true := by
  obtain ⟨mk, methM, hnamed, hmethM, -, -⟩ := Cond.instanceMethod_spec hd
  obtain ⟨c, r, m, -, -, h3, -, k, h5, h6⟩ := Cond.selects_spec hs
  have f1 := findClass_of_methodNamed hnamed
  have f2 := findClass_of_methodNamed h3
  rw [hc] at f2
  have e := Option.some.inj (f1.symm.trans f2)
  rw [← e] at h5
  have hfound : s.methodFound? y.cls y.name y.desc = some mk := State.methodFound?_of_named hnamed hy
  simp only [Cond.before, Cond.holds, Cond.value, f1, hfound, hnamed, h5]
  simp [h6]
theorem own_nf {s : State} {a : Array Value} {C : String} {y z : MethodName} (w : (Jvm.Cond.selects C z z).before a s = true) (h : z.cls = y.cls) : NotFace s y := fun r0 h0 => by
  obtain ⟨c, r, m, -, -, h3, -, k, h5, h6⟩ := Cond.selects_spec w
  have f1 := findClass_of_methodNamed h0
  have f2 := findClass_of_methodNamed h3
  rw [h] at f2
  have e := Option.some.inj (f1.symm.trans f2)
  rw [← e] at h5
  exact ⟨k, h5, h6⟩
section OwnPay
variable {p : Program} {l : Launch} {e : Env} {R : Room} {s : State} {args : Array Value} {below : List Frame} {Z : State} {a0 : Array Value}
theorem own_ssBack {W : Nat} (hZ : Z.Warmed39 s.vm) (wc : (Jvm.Cond.code Jvm.Free.SBG.StrSize.ssN Jvm.Free.SBG.StrSize.ssB 4 (some .int)).before a0 Z = true) (wz : (Jvm.Cond.initialized "java/lang/Integer").before a0 Z = true) (x : Int32) (h : Heap) (n0 : Nat) (hf : 1 + 1 ≤ R.frames) (hl : W + (4 + 11) + 40 ≤ R.locals) :
    Back l R p e below s args Jvm.Free.SBG.StrSize.ssN 3 W (fun A a => a = #[.int x] ∧ A.U.heap = h ∧ A.cells + 0 ≤ R.cells ∧ A.slots + 0 ≤ R.slots)
      (fun A _ v B => ∃ L, (v = some (.int (own_ss x)) ∧ Fr n0 L ∧ B.U.heap = h) ∧ B.locs = A.locs ++ L ∧ B.cells = A.cells + 0 ∧ B.slots = A.slots + 0) :=
  (Jvm.Free.SBG.StrSize.pays (args := args) hf (by omega) (mvT hZ wc) (mvT hZ wz)).mono (fun A a q => ⟨q.2.2.1, q.2.2.2, x, q.1⟩)
    (fun A a v B q r => ⟨[], ⟨r.2 x q.1, Fr.nil n0, r.1.1.trans q.2.1⟩, by rw [r.1.2.1, List.append_nil], r.1.2.2.1, r.1.2.2.2⟩)
theorem own_gcBack {W : Nat} {x idx : Int32} {a : Addr} {k : ClassId} {f : Nat → Int32} {h : Heap} {n0 : Nat} (hZ : Z.Warmed39 s.vm) (wc : (Jvm.Cond.code Jvm.Free.SBG.GetChars.gcN Jvm.Free.SBG.GetChars.gcB 7 (some .int)).before a0 Z = true) (wz : (Jvm.Cond.initialized "java/lang/Integer").before a0 Z = true)
    (w1 : (Jvm.Cond.fieldLink "java/lang/Integer" 83 "java/lang/Integer" "DigitOnes" "[B").before a0 Z = true) (w2 : (Jvm.Cond.fieldLink "java/lang/Integer" 87 "java/lang/Integer" "DigitTens" "[B").before a0 Z = true)
    (O : Old Z n0 h) (V : Arv Z h a k .byte (16 : Int32) (own_bs f) (.int (0 : Int32))) (ga : n0 ≤ a) (T : own_Tab Z) (c1 : ¬ (idx < own_ss x)) (c2 : ¬ ((16 : Int32) < idx)) (hf : 1 + 1 ≤ R.frames) (hl : W + (7 + 11) + 60 ≤ R.locals) :
    Back l R p e below s args Jvm.Free.SBG.GetChars.gcN 3 W (fun A b => b = #[.int x, .int idx, .ref a] ∧ A.U.heap = h ∧ A.cells + 0 ≤ R.cells ∧ A.slots + 0 ≤ R.slots)
      (fun A _ v B => ∃ L, (v = some (.int (own_gr x idx)) ∧ Fr n0 L ∧ Keep h B.U.heap [a] ∧ Arv Z B.U.heap a k .byte (16 : Int32) (own_bs (own_gc x idx f)) (.int (0 : Int32))) ∧ B.locs = A.locs ++ L ∧ B.cells = A.cells + 0 ∧ B.slots = A.slots + 0) := by
  intro m meth c A g ig mk b X hg hsize hdg hW hn hp
  obtain ⟨rfl, hh, hc, hs⟩ := hp
  obtain ⟨st, d1, D1, d2, D2, t1, o1, t2, o2⟩ := T
  obtain ⟨cl, Ar, q1, S, q3, H, G⟩ := V
  have hU : Z.Warmed39 A.U.vm := wtrans hZ X.warmed
  have S16 : cl.slots.size = 16 := S
  have hd := own_dn_b x
  have hg' := own_sg_b x
  have es := own_ss_int x
  have i1 : ((own_dn x + own_sg x : Nat) : Int) ≤ idx.toInt := by
    rw [Int32.lt_iff_toInt_lt] at c1; omega
  have i2 : idx.toInt ≤ 16 := by
    rw [Int32.lt_iff_toInt_lt, own_16] at c2; omega
  have ci := own_clamp (i := idx) (by omega)
  have ib : ¬ idx < 0 := by
    rw [Int32.lt_iff_toInt_lt, own_0i]; omega
  have ei : Int32.ofNat idx.toNatClampNeg = idx := (back32 ib).1
  have hold : ∀ (y : Addr) (cy : Cell), Z.heap[y]? = some cy → A.U.heap[y]? = some cy := fun y cy q => by rw [hh]; exact O.2.2 y cy q
  have far : ∀ (y : Addr) (cy : Cell), Z.heap[y]? = some cy → a ≠ y := fun y cy q => Ne.symm (Old.ne O (Array.getElem?_eq_some_iff.mp q).1 ga)
  obtain ⟨cS, e1⟩ : ∃ cS, Z.heap[st]? = some cS := by obtain ⟨_, _, _, _, cS, _, _, _, _, r, _⟩ := t1; exact ⟨cS, r⟩
  have e2 : Z.heap[d1]? = some D1 := by obtain ⟨_, _, _, _, _, _, _, _, _, _, _, _, r, _⟩ := t1; exact r
  have e3 : Z.heap[d2]? = some D2 := by obtain ⟨_, _, _, _, _, _, _, _, _, _, _, _, r, _⟩ := t2; exact r
  have hroom : Jvm.Free.SBG.digits (own_N x) + Jvm.Free.SBG.GetChars.sgn x ≤ idx.toNatClampNeg := by
    show own_dn x + own_sg x ≤ idx.toNatClampNeg; omega
  have hsz0 : idx.toNatClampNeg ≤ cl.slots.size := by omega
  have hby : ∀ i, i < cl.slots.size → fits .byte (cl.slots.getD i .null) = true := fun i hi => by
    rw [Array.getD_eq_getD_getElem?, H i hi]; exact G i hi
  have ea : (#[.int x, .int idx, .ref a] : Array Value) = #[.int x, .int (Int32.ofNat idx.toNatClampNeg), .ref a] := by rw [ei]
  have hpre : Jvm.Free.SBG.GetChars.Pre R ⟨x, own_N x, idx.toNatClampNeg, a, cl, st, d1, D1, d2, D2⟩ A #[.int x, .int idx, .ref a] :=
    ⟨ea, hc, hs, ea, by rw [hh]; exact Ar.1, State.isArrayOf_alike hU.alike Ar.2.1, Ar.2.2, by show cl.slots.size < 2 ^ 31; omega, hsz0, hroom, own_Nle x, own_neg x, t1.move hU.alike (fun c q => hold _ _ q) (hold _ _ e2), t2.move hU.alike (fun c q => hold _ _ q) (hold _ _ e3), far _ _ e1, far _ _ e2, far _ _ e3⟩
  have htab : Jvm.Free.SBG.GetChars.tab.before args s = true := by
    show (Jvm.Cond.and _ (Jvm.Cond.and _ _)).before args s = true
    rw [Cond.before_and, Cond.before_and, Bool.and_eq_true, Bool.and_eq_true]
    exact ⟨mvT hZ wc, mvT hZ w1, mvT hZ w2⟩
  obtain ⟨v, B, X', hq, hst⟩ := Jvm.Free.SBG.GetChars.pays (l := l) (R := R) (p := p) (e := e) (below := below) (s := s) (sargs := args) ⟨x, own_N x, idx.toNatClampNeg, a, cl, st, d1, D1, d2, D2⟩ W htab (mvT hZ wz) hf (by omega) m meth c A g ig mk _ X hg hsize hdg hW hn hpre
  obtain ⟨rv, hout, b1, b2, hsz, hoth, L, hL, hb⟩ := hq
  have ofc := Jvm.Free.SBG.GetChars.outCell_facts ⟨x, own_N x, idx.toNatClampNeg, a, cl, st, d1, D1, d2, D2⟩ (own_Nle x) hroom hby
  have oat := Jvm.Free.SBG.outCell_at ⟨x, own_N x, idx.toNatClampNeg, a, cl, st, d1, D1, d2, D2⟩ o1 o2 (own_Nle x) hroom hsz0
  generalize Jvm.Free.SBG.GetChars.outCell ⟨x, own_N x, idx.toNatClampNeg, a, cl, st, d1, D1, d2, D2⟩ = OC at hout ofc oat
  obtain ⟨f1, f2, f3, f4, -⟩ := ofc
  obtain ⟨oa, ob, oc⟩ := oat
  have f3' : OC.slots.size = cl.slots.size := f3
  have hHas : ∀ i, i < OC.slots.size → OC.slots[i]? = some ((own_bs (own_gc x idx f)).getD i (.int (0 : Int32))) := fun i hi => by
    have hi16 : i < 16 := by omega
    rw [own_bs_get _ hi16]
    unfold own_gc
    by_cases z1 : i < idx.toNatClampNeg - (own_dn x + own_sg x) ∨ idx.toNatClampNeg ≤ i
    · rw [if_pos z1, oc i z1]
      have q := H i (by omega)
      rw [own_bs_get _ hi16] at q
      exact q
    · rw [if_neg z1]
      by_cases z2 : x < 0 ∧ i = idx.toNatClampNeg - own_dn x - 1
      · rw [if_pos z2, z2.2]; exact ob z2.1
      · rw [if_neg z2]
        have q := oa (idx.toNatClampNeg - 1 - i) (by
          show idx.toNatClampNeg - 1 - i < own_dn x
          by_cases hx : x < 0
          · have := own_sg_neg hx
            have : ¬ i = idx.toNatClampNeg - own_dn x - 1 := fun w => z2 ⟨hx, w⟩
            omega
          · have := own_sg_pos hx
            omega)
        have q' : OC.slots[idx.toNatClampNeg - 1 - (idx.toNatClampNeg - 1 - i)]? = some (.int (Int32.ofNat (48 + own_N x / 10 ^ (idx.toNatClampNeg - 1 - i) % 10))) := q
        rwa [show idx.toNatClampNeg - 1 - (idx.toNatClampNeg - 1 - i) = i by omega] at q'
  refine ⟨v, B, X', ⟨L, ⟨rv, fun y hy => by rw [hb y hy]; exact ga, ?_, ?_⟩, hL, b1, b2⟩, hst⟩
  · refine ⟨by rw [hsz, hh]; exact Nat.le_refl _, fun y cy q r => hoth y cy (fun w => r (by rw [w]; exact List.mem_singleton.mpr rfl)) (by rw [hh]; exact q), fun y cy q => ?_⟩
    by_cases w : y = a
    · rw [w] at q ⊢
      cases (Ar.1.symm.trans q)
      exact ⟨OC, hout, f1, f2, f3⟩
    · exact ⟨cy, hoth y cy w (by rw [hh]; exact q), rfl, rfl, rfl⟩
  · refine ⟨OC, ⟨hout, ?_, by rw [f2]; exact Ar.2.2⟩, f1.trans q1, f3'.trans S, by decide, hHas, fun i hi => ?_⟩
    · unfold State.isArrayOf
      rw [f1, f2]; exact Ar.2.1
    · have q := f4 i hi
      rw [Array.getD_eq_getD_getElem?, hHas i hi] at q
      exact q
end OwnPay

def own_EL : List (String × Nat) := [("java/lang/String", 7)]
theorem own_sub : ∀ p ∈ own_EL, p ∈ consts_1 := by decide
theorem own_EW {Z : State} {a0 : Array Value} (hw : ∀ d ∈ tables_1, d.before a0 Z = true) : EW Z a0 own_EL := EW.cons (W hw 229 rfl) (by decide) EW.nil
theorem own_lt0 : (∀ c ∈ "".toList, c.toNat < 256) ∧ "".toList.map (fun c => Value.int (Jvm.Lit.byteI c.toNat.toUInt16)) = [] := by decide +kernel
theorem d1_0 : decode jdk_42_method_3_code 0 = .ok (.aload_n 0, 1) := by decide +kernel
theorem d1_1 : decode jdk_42_method_3_code 1 = .ok (.aload_n 1, 1) := by decide +kernel
theorem d1_2 : decode jdk_42_method_3_code 2 = .ok (.iconst 0, 1) := by decide +kernel
theorem d1_3 : decode jdk_42_method_3_code 3 = .ok (.aload_n 1, 1) := by decide +kernel
theorem d1_4 : decode jdk_42_method_3_code 4 = .ok (.arraylength, 1) := by decide +kernel
theorem d1_5 : decode jdk_42_method_3_code 5 = .ok (.aconst_null, 1) := by decide +kernel
theorem d1_6 : decode jdk_42_method_3_code 6 = .ok (.invokespecial 27, 3) := by decide +kernel
theorem d2_0 : decode jdk_42_method_149_code 0 = .ok (.aload_n 0, 1) := by decide +kernel
theorem d2_1 : decode jdk_42_method_149_code 1 = .ok (.invokespecial 1, 3) := by decide +kernel
theorem d2_4 : decode jdk_42_method_149_code 4 = .ok (.iload_n 3, 1) := by decide +kernel
theorem d2_5 : decode jdk_42_method_149_code 5 = .ok (.ifCond .ne 22, 3) := by decide +kernel
theorem d2_8 : decode jdk_42_method_149_code 8 = .ok (.aload_n 0, 1) := by decide +kernel
theorem d2_9 : decode jdk_42_method_149_code 9 = .ok (.ldc 7, 2) := by decide +kernel
theorem own_wS {Z : State} {a0 : Array Value} (hw : ∀ d ∈ tables_1, d.before a0 Z = true) : ∀ a ∈ Bundle.stringAtoms, a.before a0 Z = true := by
  intro a ha
  simp only [Bundle.stringAtoms, List.mem_cons, List.not_mem_nil, or_false] at ha
  rcases ha with rfl | rfl | rfl | rfl | rfl | rfl | rfl
  · exact (W hw 2 rfl)
  · exact (W hw 1 rfl)
  · exact (W hw 19 rfl)
  · exact (W hw 29 rfl)
  · exact (W hw 27 rfl)
  · exact (W hw 230 rfl)
  · exact (W hw 231 rfl)
theorem d2_11 : decode jdk_42_method_149_code 11 = .ok (.getfield 9, 3) := by decide +kernel
theorem d2_14 : decode jdk_42_method_149_code 14 = .ok (.putfield 9, 3) := by decide +kernel
theorem d2_17 : decode jdk_42_method_149_code 17 = .ok (.aload_n 0, 1) := by decide +kernel
theorem d2_18 : decode jdk_42_method_149_code 18 = .ok (.ldc 7, 2) := by decide +kernel
theorem d2_20 : decode jdk_42_method_149_code 20 = .ok (.getfield 15, 3) := by decide +kernel
theorem d2_23 : decode jdk_42_method_149_code 23 = .ok (.putfield 15, 3) := by decide +kernel
theorem d2_26 : decode jdk_42_method_149_code 26 = .ok (.return_, 1) := by decide +kernel
theorem ef_2_RRIIn (m : MethodId) (x0 : Addr) (x1 : Addr) (x2 : Int32) (x3 : Int32) : entryFrame m #[(.ref x0), (.ref x1), (.int x2), (.int x3), .null] 6 = mkF m 0 #[vr x0, vr x1, vi x2, vi x3, .val .null, .unset] [] := by first | (simp [entryFrame, mkF, argsToLocals, Value.category]; done) | rfl
theorem pn_0 : plainName "java/lang/String" = true := by first | (simp [plainName, overriddenIn]; done) | decide +kernel
def Qrm2 (Z : State) (a1 : Addr) (a2 : Addr) (h0 : Heap) (n0 : Nat) (v : Option Value) (h : Heap) (L : List Loc) : Prop := ∃ bb4 : Addr, ∃ kk4 : ClassId, v = none ∧ Fr n0 L ∧ Keep h0 h [a1] ∧ Exa Z h a1 "java/lang/String" ∧ Fld Z h a1 "java/lang/String" "value" "[B" (.ref bb4) ∧ Fld Z h a1 "java/lang/String" "coder" "B" (.int 0) ∧ Arv Z h bb4 kk4 .byte (0 : Int32) [] (.int (0 : Int32))
set_option maxRecDepth 65536 in
set_option maxHeartbeats 40000000 in
theorem rm2 (l : Launch) (Z : State) (a0 : Array Value) (hw : ∀ d ∈ tables_1, d.before a0 Z = true) (ws : List Jvm.Cond) (a1 : Addr) (a2 : Addr) (h0 : Heap) (n0 : Nat) (O0 : Old Z n0 h0) (E_6 : Exa Z h0 a1 "java/lang/String") (F_7 : Fld Z h0 a1 "java/lang/String" "value" "[B" .null) (g_a1 : n0 ≤ a1) (F_11 : Fld Z h0 a1 "java/lang/String" "coder" "B" (.int 0)) :
    MetFree l (⟨"java/lang/String", "<init>", "([CIILjava/lang/Void;)V"⟩ : MethodName) (head1 (Jvm.Cond.code (⟨"java/lang/String", "<init>", "([CIILjava/lang/Void;)V"⟩ : MethodName) jdk_42_method_149_code 6 none :: ws) (⟨1, 4, 8, 12⟩ : Room)) (fun a U => a = #[(.ref a1), (.ref a2), (.int 0), (.int 0), .null] ∧ Z.Warmed39 U.vm ∧ U.heap = h0 ∧ own_CH Z own_EL n0 U.vm h0) (fun _ _ _ _ _ => True) (fun _ U o U' => ∃ v L, o = .returned v ∧ Qrm2 Z a1 a2 h0 n0 v U'.heap L ∧ ReturnedEndW U o U' L (⟨1, 4, 8, 12⟩ : Room).cells (⟨1, 4, 8, 12⟩ : Room).slots) := by
  refine MetFree.of_bodySF (plainFor_of_name pn_0) hisR ?_
  intro p e s m args below meth c s₁ Bd hml0 hP hK
  obtain ⟨rfl, hZ, hh, hCH⟩ := hP
  have hx := Bd.exec
  have hby := Bd.bytes
  have hml : c.maxLocals = 6 := hml0
  have hown : s.vm.findClass "java/lang/String" = some m.cls := findClass_of_methodNamed Bd.named
  have hnm := (name_of_methodNamed Bd.named Bd.method).1
  have X0 : Stand p l e (⟨1, 4, 8, 12⟩ : Room) s m #[(.ref a1), (.ref a2), (.int 0), (.int 0), .null] below meth c s₁ [] 0 0 := Stand.of_body Bd
  have e0 : s₁.heap = h0 := by rw [← hh, Bd.state]; rfl
  have N0 := Fr.nil n0
  have pre0 : ∀ t, Steps p.tables e below (s₁.setTop (mkF m 0 #[vr a1, vr a2, vi 0, vi 0, .val .null, .unset] [])) t → Steps p.tables e below (s₁.setTop (entryFrame m #[(.ref a1), (.ref a2), (.int 0), (.int 0), .null] 6)) t := fun t k => castTop (ef_2_RRIIn m a1 a2 (0 : Int32) (0 : Int32)) k
  have CS0 : own_CS Z own_EL n0 h0.size s.vm h0 := own_CS.start hCH
  have hS0 : s.Since s.vm 0 := (State.WarmedH.refl s).since 0
  obtain ⟨T3, X3, e3, st3⟩ := initO X0 hx hZ hown (W hw 11 rfl) (W hw 12 rfl) (W hw 13 rfl) e0 (g := (mkF m 1 #[vr a1, vr a2, vi 0, vi 0, .val .null, .unset] [(.ref a1)])) rfl (by rw [hml]; rfl) rfl (hb hby d2_1) (by decide) (W := 0) (by show 2 * 0 + _ ≤ _; exact Nat.le_of_eq rfl) (by decide)
  obtain ⟨b4, T4, h4, k4, bb4, kk4, X4, e4, E4, hS4, hk4, hZ4, hown4, La4, Lc4, Lv4, Lb4, -, -, hC4, -, hne4, st4⟩ := ldcCH (s := s) (vm0 := s.vm) X3 hx hZ hown (W hw 229 rfl) (own_wS hw) e3 hS0 (Nat.zero_le _) (own_EW hw) (List.mem_of_getElem? (i := 0) rfl) CS0.1 (vs := []) (z := (0 : Int32)) own_lt0 (by decide) (by decide) (g := (mkF m 9 #[vr a1, vr a2, vi 0, vi 0, .val .null, .unset] [(.ref a1)])) rfl (hb hby d2_9) (n := 0) (by decide) (by decide) (by decide) (by decide)
  have CS4 := CS0.ldc hC4 (Keep.refl h0 [a1]).1
  have K4 := (Keep.refl h0 [a1]).ext E4
  obtain ⟨T5, X5, e5, st5⟩ := getF X4 hx hZ4 hown4 (host := "") (Or.inl (W hw 28 rfl)) Via.refl e4 Lv4 (g := (mkF m 11 #[vr a1, vr a2, vi 0, vi 0, .val .null, .unset] [(.ref b4), (.ref a1)])) rfl rfl (hb hby d2_11)
  have f8 := (F_7.ext E4)
  have f9 := (E_6.ext E4)
  obtain ⟨T10, h10, X10, e10, W10, st10⟩ := putF X5 hx hZ4 hown4 (host := "") (Or.inl (W hw 28 rfl)) Via.refl e5 f8 f9 (Or.inr ⟨(W hw 29 rfl), rfl, hnm⟩) (W hw 1 rfl) (ty := (.array .byte)) (by decide) rfl rfl (g := (mkF m 14 #[vr a1, vr a2, vi 0, vi 0, .val .null, .unset] [(.ref bb4), (.ref a1)])) rfl rfl (hb hby d2_14)
  have K10 := K4.wr W10 (Or.inl (List.mem_of_getElem? (i := 0) rfl))
  have N10 := Fr.snoc X10 N0 g_a1
  have CS10 := CS4.wr W10 g_a1 E_6.lt
  have Fw10 := f8.same W10
  obtain ⟨b12, T12, h12, k12, bb12, kk12, X12, e12, E12, hS12, hk12, hZ12, hown12, La12, Lc12, Lv12, Lb12, -, -, hC12, -, hne12, st12⟩ := ldcCH (s := s) (vm0 := T4.vm) X10 hx hZ4 hown4 (W hw 229 rfl) (own_wS hw) e10 hS4 (Nat.le_trans hk4 (Keep.of_wr W10).1) (own_EW hw) (List.mem_of_getElem? (i := 0) rfl) CS10.1 (vs := []) (z := (0 : Int32)) own_lt0 (by decide) (by decide) (g := (mkF m 18 #[vr a1, vr a2, vi 0, vi 0, .val .null, .unset] [(.ref a1)])) rfl (hb hby d2_18) (n := 0) (by decide) (by decide) (by decide) (by decide)
  have K12 := K10.ext E12
  obtain ⟨T13, X13, e13, st13⟩ := getF X12 hx hZ12 hown12 (host := "") (Or.inl (W hw 26 rfl)) Via.refl e12 Lc12 (g := (mkF m 20 #[vr a1, vr a2, vi 0, vi 0, .val .null, .unset] [(.ref b12), (.ref a1)])) rfl rfl (hb hby d2_20)
  have f14 := (((F_11.ext E4).other W10 (Or.inr (slot_ne (Or.inr (W hw 27 rfl)) (Or.inr (W hw 29 rfl)) (by decide) (t := .byte) (t' := (.array .byte)) (by decide) (by decide)))).ext E12)
  have f15 := ((f9.wr W10).ext E12)
  obtain ⟨T16, h16, X16, e16, W16, st16⟩ := putFN X13 hx hZ12 hown12 (W hw 26 rfl) Via.refl e13 f14 f15 (Or.inr ⟨(W hw 27 rfl), rfl, hnm⟩) (W hw 1 rfl) (ty := .byte) (v' := (.int 0)) (by decide) rfl rfl (g := (mkF m 23 #[vr a1, vr a2, vi 0, vi 0, .val .null, .unset] [(.int 0), (.ref a1)])) rfl rfl (hb hby d2_23)
  have K16 := K12.wr W16 (Or.inl (List.mem_of_getElem? (i := 0) rfl))
  have N16 := Fr.snoc X16 N10 g_a1
  have Fw16 := f14.same W16
  have f17 := (f15.wr W16)
  have f18 := ((Fw10.ext E12).other W16 (Or.inr (slot_ne (Or.inr (W hw 29 rfl)) (Or.inr (W hw 27 rfl)) (by decide) (t := (.array .byte)) (t' := .byte) (by decide) (by decide))))
  have f19 := (((Lb4.other W10 (Ne.symm (hne4 a1 (CS4.2 a1 g_a1 E_6.lt)).2)).ext E12).other W16 (Ne.symm (hne4 a1 (CS4.2 a1 g_a1 E_6.lt)).2))
  obtain ⟨fs, hr, hrun, hended, hREW⟩ := X16.leaveW (s := s) hS12 (by rw [e16]; exact (Nat.le_trans hk12 (Keep.of_wr W16).1)) (v := none) (fun _ => rfl)
  refine ⟨_, _, pre0 _ ?_, hrun, hended, _, _, rfl, ?_, hREW.1, hREW.2.1, hREW.2.2.1, hREW.2.2.2.mono (by decide) (by decide)⟩
  · show Steps p.tables e below (s₁.setTop (mkF m 0 #[vr a1, vr a2, vi 0, vi 0, .val .null, .unset] [])) _
    refine XS.aloadN X0.here hx rfl (hb hby d2_0) rfl rfl ?_
    refine st3 _ ?_
    refine XS.iloadN X3.here hx rfl (hb hby d2_4) rfl ?_
    refine XS.ifNo X3.here hx rfl (hb hby d2_5) rfl ((if0 _ _).trans (teq ((by decide) : (0 : Int32) = (0 : Int32))).2) ?_
    refine XS.aloadN X3.here hx rfl (hb hby d2_8) rfl rfl ?_
    refine st4 _ ?_
    refine st5 _ ?_
    refine st10 _ ?_
    refine XS.aloadN X10.here hx rfl (hb hby d2_17) rfl rfl ?_
    refine st12 _ ?_
    show Steps p.tables e below (T12.setTop (mkF m 20 #[vr a1, vr a2, vi 0, vi 0, .val .null, .unset] [(.ref b12), (.ref a1)])) _
    refine st13 _ ?_
    refine st16 _ ?_
    exact X16.returnOut hx Bd.returns (hb hby d2_26) hr
  · show Qrm2 Z a1 a2 h0 n0 _ T16.heap _
    rw [e16]
    exact ⟨bb4, kk4, rfl, N16, K16, f17, f18, Fw16, f19⟩
theorem pd_1 : parseMethodDescriptor "([CIILjava/lang/Void;)V" = some ⟨[(.array .char), .int, .int, (.object "java/lang/Void")], none⟩ := by decide +kernel
theorem d1_9 : decode jdk_42_method_3_code 9 = .ok (.return_, 1) := by decide +kernel
theorem ef_1_RR (m : MethodId) (x0 : Addr) (x1 : Addr) : entryFrame m #[(.ref x0), (.ref x1)] 2 = mkF m 0 #[vr x0, vr x1] [] := by first | (simp [entryFrame, mkF, argsToLocals, Value.category]; done) | rfl
def Qrm1 (Z : State) (a1 : Addr) (a2 : Addr) (k3 : ClassId) (h0 : Heap) (n0 : Nat) (v : Option Value) (h : Heap) (L : List Loc) : Prop := ∃ o10 : Addr, ∃ k11 : ClassId, v = none ∧ Fr n0 L ∧ Keep h0 h [a1] ∧ Exa Z h a1 "java/lang/String" ∧ Fld Z h a1 "java/lang/String" "value" "[B" (.ref o10) ∧ Fld Z h a1 "java/lang/String" "coder" "B" (.int 0) ∧ Arv Z h o10 k11 .byte (0 : Int32) [] (.int (0 : Int32))
set_option maxRecDepth 65536 in
set_option maxHeartbeats 40000000 in
theorem rm1 (l : Launch) (Z : State) (a0 : Array Value) (hw : ∀ d ∈ tables_1, d.before a0 Z = true) (ws : List Jvm.Cond) (a1 : Addr) (a2 : Addr) (k3 : ClassId) (h0 : Heap) (n0 : Nat) (O0 : Old Z n0 h0) (V_4 : Arv Z h0 a2 k3 .char (0 : Int32) [] (.int 0)) (E_6 : Exa Z h0 a1 "java/lang/String") (F_7 : Fld Z h0 a1 "java/lang/String" "value" "[B" .null) (g_a1 : n0 ≤ a1) (F_8 : Fld Z h0 a1 "java/lang/String" "coder" "B" (.int 0)) :
    MetFree l (⟨"java/lang/String", "<init>", "([C)V"⟩ : MethodName) (head1 (Jvm.Cond.code (⟨"java/lang/String", "<init>", "([C)V"⟩ : MethodName) jdk_42_method_3_code 2 none :: ws) (⟨2, 4, 8, 29⟩ : Room)) (fun a U => a = #[(.ref a1), (.ref a2)] ∧ Z.Warmed39 U.vm ∧ U.heap = h0 ∧ own_CH Z own_EL n0 U.vm h0) (fun _ _ _ _ _ => True) (fun _ U o U' => ∃ v L, o = .returned v ∧ Qrm1 Z a1 a2 k3 h0 n0 v U'.heap L ∧ ReturnedEndW U o U' L (⟨2, 4, 8, 29⟩ : Room).cells (⟨2, 4, 8, 29⟩ : Room).slots) := by
  refine MetFree.of_bodySF (plainFor_of_name pn_0) hisR ?_
  intro p e s m args below meth c s₁ Bd hml0 hP hK
  obtain ⟨rfl, hZ, hh, hCH⟩ := hP
  have hx := Bd.exec
  have hby := Bd.bytes
  have hml : c.maxLocals = 2 := hml0
  have hown : s.vm.findClass "java/lang/String" = some m.cls := findClass_of_methodNamed Bd.named
  have X0 : Stand p l e (⟨2, 4, 8, 29⟩ : Room) s m #[(.ref a1), (.ref a2)] below meth c s₁ [] 0 0 := Stand.of_body Bd
  have e0 : s₁.heap = h0 := by rw [← hh, Bd.state]; rfl
  have N0 := Fr.nil n0
  have pre0 : ∀ t, Steps p.tables e below (s₁.setTop (mkF m 0 #[vr a1, vr a2] [])) t → Steps p.tables e below (s₁.setTop (entryFrame m #[(.ref a1), (.ref a2)] 2)) t := fun t k => castTop (ef_1_RR m a1 a2) k
  have hS0 : s.Since s.vm 0 := (State.WarmedH.refl s).since 0
  obtain ⟨cl5, Ar5, q5, S5, M5, Hs5, G5⟩ := id V_4
  obtain ⟨_, _, ⟨T9, L9, k9, n9⟩, -, X9, h29, hg9, ⟨Lc9, hQ9, l9, y9, z9⟩, st9⟩ := X0.specialBackS hx (y := (⟨"java/lang/String", "<init>", "([CIILjava/lang/Void;)V"⟩ : MethodName)) rfl hown (mvT hZ (W hw 7 rfl)) (mvT hZ (W hw 8 rfl)) (mvT hZ (W hw 10 rfl)) (by decide) (own_backOfSH (s := s) (vm0 := s.vm) (W := 0) (rm2 l Z a0 hw [] a1 a2 h0 n0 O0 E_6 F_7 g_a1 F_8) hZ (W hw 10 rfl) (W hw 2 rfl) (by decide) (by decide) (own_EW hw) hCH) (g := (mkF m 6 #[vr a1, vr a2] [.null, (.int 0), (.int 0), (.ref a2), (.ref a1)])) rfl (by rw [hml]; rfl) (Steps.refl _) (a := a1) (argsL := [(.ref a2), (.int 0), (.int 0), .null]) (rest := []) (lenOf pd_1 rfl) rfl (by show 2 * 0 + _ ≤ _; exact Nat.le_of_eq rfl) (hb hby d1_6) (fun _ _ => ⟨rfl, e0, (by decide : 0 + 4 ≤ _), (by decide : 0 + 8 ≤ _)⟩)
  dsimp only [Pt.U, Pt.locs, Pt.cells, Pt.slots] at X9 l9 y9 z9 st9 hQ9 h29 hg9
  subst l9 y9 z9
  obtain ⟨X9, hS9, hZ9, hown9⟩ := rebS (s := s) (vm0 := s.vm) hS0 (show _ ≤ s₁.heap.size from (by rw [e0]; exact (Nat.zero_le _))) X9 h29 hg9 hZ hown
  obtain ⟨o10, k11, rfl, Nq9, K9, P9_0, P9_1, P9_2, P9_3⟩ := hQ9
  have N9 := Fr.app N0 Nq9
  have KK9 := Keep.trans (h := h0) (Keep.refl h0 [a1]) K9 (allS (Or.inl (List.mem_of_getElem? (i := 0) rfl)) all0)
  obtain ⟨fs, hr, hrun, hended, hREW⟩ := X9.leaveW (s := s) hS9 (Nat.le_refl _) (v := none) (fun _ => rfl)
  refine ⟨_, _, pre0 _ ?_, hrun, hended, _, _, rfl, ?_, hREW.1, hREW.2.1, hREW.2.2.1, hREW.2.2.2.mono (by decide) (by decide)⟩
  · show Steps p.tables e below (s₁.setTop (mkF m 0 #[vr a1, vr a2] [])) _
    refine XS.aloadN X0.here hx rfl (hb hby d1_0) rfl rfl ?_
    refine XS.aloadN X0.here hx rfl (hb hby d1_1) rfl rfl ?_
    refine XS.iconst X0.here hx rfl (hb hby d1_2) ?_
    refine XS.aloadN X0.here hx rfl (hb hby d1_3) rfl rfl ?_
    refine X0.arraylength hx (by rw [e0]; exact Ar5.1) (State.isArrayOf_alike hZ.alike Ar5.2.1) (g := (mkF m 4 #[vr a1, vr a2] [(.ref a2), (.int 0), (.ref a2), (.ref a1)])) rfl rfl (hb hby d1_4) _ ?_
    rw [len_of S5 M5]
    refine XS.aconstNull X0.here hx rfl (hb hby d1_5) ?_
    refine st9.trans ?_
    exact X9.returnOut hx Bd.returns (hb hby d1_9) hr
  · show Qrm1 Z a1 a2 k3 h0 n0 _ T9.heap _
    exact ⟨o10, k11, rfl, N9, KK9, P9_0, P9_1, P9_2, P9_3⟩
theorem pd_2 : parseMethodDescriptor "([C)V" = some ⟨[(.array .char)], none⟩ := by decide +kernel
theorem d7_0 : decode prog_10_method_1_code 0 = .ok (.aload_n 0, 1) := by decide +kernel
theorem d7_1 : decode prog_10_method_1_code 1 = .ok (.invokespecial 1, 3) := by decide +kernel
theorem d8_0 : decode jdk_30_method_1_code 0 = .ok (.aload_n 0, 1) := by decide +kernel
theorem d8_1 : decode jdk_30_method_1_code 1 = .ok (.invokespecial 1, 3) := by decide +kernel
theorem d8_4 : decode jdk_30_method_1_code 4 = .ok (.return_, 1) := by decide +kernel
theorem ef_8_R (m : MethodId) (x0 : Addr) : entryFrame m #[(.ref x0)] 1 = mkF m 0 #[vr x0] [] := by first | (simp [entryFrame, mkF, argsToLocals, Value.category]; done) | rfl
theorem pn_3 : plainName "java/lang/Record" = true := by first | (simp [plainName, overriddenIn]; done) | decide +kernel
def Qrm8 (Z : State) (a1 : Addr) (h0 : Heap) (n0 : Nat) (v : Option Value) (h : Heap) (L : List Loc) : Prop := v = none ∧ Fr n0 L ∧ h = h0
set_option maxRecDepth 65536 in
set_option maxHeartbeats 40000000 in
theorem rm8 (l : Launch) (Z : State) (a0 : Array Value) (hw : ∀ d ∈ tables_1, d.before a0 Z = true) (ws : List Jvm.Cond) (a1 : Addr) (h0 : Heap) (n0 : Nat) (O0 : Old Z n0 h0) :
    MF l Z h0 (⟨"java/lang/Record", "<init>", "()V"⟩ : MethodName) jdk_30_method_1_code 1 none ws (⟨1, 0, 0, 12⟩ : Room) #[(.ref a1)] (Qrm8 Z a1 h0 n0) := by
  refine MetFree.of_bodySF (plainFor_of_name pn_3) hisR ?_
  intro p e s m args below meth c s₁ Bd hml0 hP hK
  obtain ⟨rfl, hZ, hh⟩ := hP
  have hx := Bd.exec
  have hby := Bd.bytes
  have hml : c.maxLocals = 1 := hml0
  have hown : s.vm.findClass "java/lang/Record" = some m.cls := findClass_of_methodNamed Bd.named
  have X0 : Stand p l e (⟨1, 0, 0, 12⟩ : Room) s m #[(.ref a1)] below meth c s₁ [] 0 0 := Stand.of_body Bd
  have e0 : s₁.heap = h0 := by rw [← hh, Bd.state]; rfl
  have N0 := Fr.nil n0
  have pre0 : ∀ t, Steps p.tables e below (s₁.setTop (mkF m 0 #[vr a1] [])) t → Steps p.tables e below (s₁.setTop (entryFrame m #[(.ref a1)] 1)) t := fun t k => castTop (ef_8_R m a1) k
  obtain ⟨T2, X2, e2, st2⟩ := initO X0 hx hZ hown (W hw 41 rfl) (W hw 12 rfl) (W hw 13 rfl) e0 (g := (mkF m 1 #[vr a1] [(.ref a1)])) rfl (by rw [hml]; rfl) rfl (hb hby d8_1) (by decide) (W := 0) (by show 2 * 0 + _ ≤ _; exact Nat.le_of_eq rfl) (by decide)
  obtain ⟨fs, hr, hrun, hended, hW, hsame⟩ := X2.leave (v := none) (fun _ => rfl)
  refine ⟨_, _, pre0 _ ?_, hrun, hended, _, _, rfl, ?_, ⟨_, rfl⟩, hW, hsame.mono (by decide) (by decide)⟩
  · show Steps p.tables e below (s₁.setTop (mkF m 0 #[vr a1] [])) _
    refine XS.aloadN X0.here hx rfl (hb hby d8_0) rfl rfl ?_
    refine st2 _ ?_
    exact X2.returnOut hx Bd.returns (hb hby d8_4) hr
  · show Qrm8 Z a1 h0 n0 _ T2.heap _
    rw [e2]
    exact ⟨rfl, N0, rfl⟩
theorem pd_4 : parseMethodDescriptor "()V" = some ⟨[], none⟩ := by decide +kernel
theorem d7_4 : decode prog_10_method_1_code 4 = .ok (.aload_n 0, 1) := by decide +kernel
theorem d7_5 : decode prog_10_method_1_code 5 = .ok (.aload_n 1, 1) := by decide +kernel
theorem d7_6 : decode prog_10_method_1_code 6 = .ok (.putfield 7, 3) := by decide +kernel
theorem d7_9 : decode prog_10_method_1_code 9 = .ok (.aload_n 0, 1) := by decide +kernel
theorem d7_10 : decode prog_10_method_1_code 10 = .ok (.iload_n 2, 1) := by decide +kernel
theorem d7_11 : decode prog_10_method_1_code 11 = .ok (.putfield 13, 3) := by decide +kernel
theorem d7_14 : decode prog_10_method_1_code 14 = .ok (.return_, 1) := by decide +kernel
theorem ef_7_RRI (m : MethodId) (x0 : Addr) (x1 : Addr) (x2 : Int32) : entryFrame m #[(.ref x0), (.ref x1), (.int x2)] 3 = mkF m 0 #[vr x0, vr x1, vi x2] [] := by first | (simp [entryFrame, mkF, argsToLocals, Value.category]; done) | rfl
theorem pn_5 : plainName "com/example/tight_bound/tightbound/HeapObject" = true := by first | (simp [plainName, overriddenIn]; done) | decide +kernel
def Qrm7 (Z : State) (a1 : Addr) (a2 : Addr) (p3 : Int32) (h0 : Heap) (n0 : Nat) (v : Option Value) (h : Heap) (L : List Loc) : Prop := v = none ∧ Fr n0 L ∧ Keep h0 h [a1] ∧ Exa Z h a1 "com/example/tight_bound/tightbound/HeapObject" ∧ Fld Z h a1 "com/example/tight_bound/tightbound/HeapObject" "className" "Ljava/lang/String;" (.ref a2) ∧ Fld Z h a1 "com/example/tight_bound/tightbound/HeapObject" "number" "I" (.int p3)
set_option maxRecDepth 65536 in
set_option maxHeartbeats 40000000 in
theorem rm7 (l : Launch) (Z : State) (a0 : Array Value) (hw : ∀ d ∈ tables_1, d.before a0 Z = true) (ws : List Jvm.Cond) (a1 : Addr) (a2 : Addr) (p3 : Int32) (h0 : Heap) (n0 : Nat) (O0 : Old Z n0 h0) (E_5 : Exa Z h0 a1 "com/example/tight_bound/tightbound/HeapObject") (F_6 : Fld Z h0 a1 "com/example/tight_bound/tightbound/HeapObject" "className" "Ljava/lang/String;" .null) (g_a1 : n0 ≤ a1) (F_8 : Fld Z h0 a1 "com/example/tight_bound/tightbound/HeapObject" "number" "I" (.int 0)) :
    MF l Z h0 (⟨"com/example/tight_bound/tightbound/HeapObject", "<init>", "(Ljava/lang/String;I)V"⟩ : MethodName) prog_10_method_1_code 3 none ws (⟨2, 0, 0, 24⟩ : Room) #[(.ref a1), (.ref a2), (.int p3)] (Qrm7 Z a1 a2 p3 h0 n0) := by
  refine MetFree.of_bodySF (plainFor_of_name pn_5) hisR ?_
  intro p e s m args below meth c s₁ Bd hml0 hP hK
  obtain ⟨rfl, hZ, hh⟩ := hP
  have hx := Bd.exec
  have hby := Bd.bytes
  have hml : c.maxLocals = 3 := hml0
  have hown : s.vm.findClass "com/example/tight_bound/tightbound/HeapObject" = some m.cls := findClass_of_methodNamed Bd.named
  have hnm := (name_of_methodNamed Bd.named Bd.method).1
  have X0 : Stand p l e (⟨2, 0, 0, 24⟩ : Room) s m #[(.ref a1), (.ref a2), (.int p3)] below meth c s₁ [] 0 0 := Stand.of_body Bd
  have e0 : s₁.heap = h0 := by rw [← hh, Bd.state]; rfl
  have N0 := Fr.nil n0
  have pre0 : ∀ t, Steps p.tables e below (s₁.setTop (mkF m 0 #[vr a1, vr a2, vi p3] [])) t → Steps p.tables e below (s₁.setTop (entryFrame m #[(.ref a1), (.ref a2), (.int p3)] 3)) t := fun t k => castTop (ef_7_RRI m a1 a2 p3) k
  obtain ⟨_, T4, L4, X4, hQ4, st4⟩ := cI X0 hx hZ hown (W hw 36 rfl) (W hw 37 rfl) (W hw 40 rfl) (W hw 39 rfl) rfl (by decide) (rm8 l Z a0 hw [] a1 h0 n0 O0 ) e0 #[vr a1, vr a2, vi p3] [] (by rw [hml]; rfl) (hb hby d7_1) pd_4 rfl (W := 0) (Nat.le_of_eq rfl) (by decide) (by decide) (by decide) (by decide)
  obtain ⟨rfl, Nq4, e4⟩ := hQ4
  have N4 := Fr.app N0 Nq4
  obtain ⟨T7, h7, X7, e7, W7, st7⟩ := putF X4 hx hZ hown (host := "") (Or.inl (W hw 42 rfl)) Via.refl e4 F_6 E_5 (Or.inr ⟨(W hw 43 rfl), rfl, hnm⟩) (W hw 31 rfl) (ty := (.object "java/lang/String")) (by decide) rfl rfl (g := (mkF m 6 #[vr a1, vr a2, vi p3] [(.ref a2), (.ref a1)])) rfl rfl (hb hby d7_6)
  have K7 := (Keep.refl h0 [a1]).wr W7 (Or.inl (List.mem_of_getElem? (i := 0) rfl))
  have N7 := Fr.snoc X7 N4 g_a1
  have Fw7 := F_6.same W7
  have f9 := (F_8.other W7 (Or.inr (slot_ne (Or.inr (W hw 45 rfl)) (Or.inr (W hw 43 rfl)) (by decide) (t := .int) (t' := (.object "java/lang/String")) (by decide) (by decide))))
  have f10 := (E_5.wr W7)
  obtain ⟨T11, h11, X11, e11, W11, st11⟩ := putF X7 hx hZ hown (host := "") (Or.inl (W hw 44 rfl)) Via.refl e7 f9 f10 (Or.inr ⟨(W hw 45 rfl), rfl, hnm⟩) (W hw 31 rfl) (ty := .int) (by decide) rfl rfl (g := (mkF m 11 #[vr a1, vr a2, vi p3] [(.int p3), (.ref a1)])) rfl rfl (hb hby d7_11)
  have K11 := K7.wr W11 (Or.inl (List.mem_of_getElem? (i := 0) rfl))
  have N11 := Fr.snoc X11 N7 g_a1
  have Fw11 := f9.same W11
  have f12 := (f10.wr W11)
  have f13 := (Fw7.other W11 (Or.inr (slot_ne (Or.inr (W hw 43 rfl)) (Or.inr (W hw 45 rfl)) (by decide) (t := (.object "java/lang/String")) (t' := .int) (by decide) (by decide))))
  obtain ⟨fs, hr, hrun, hended, hW, hsame⟩ := X11.leave (v := none) (fun _ => rfl)
  refine ⟨_, _, pre0 _ ?_, hrun, hended, _, _, rfl, ?_, ⟨_, rfl⟩, hW, hsame.mono (by decide) (by decide)⟩
  · show Steps p.tables e below (s₁.setTop (mkF m 0 #[vr a1, vr a2, vi p3] [])) _
    refine XS.aloadN X0.here hx rfl (hb hby d7_0) rfl rfl ?_
    refine st4 _ ?_
    refine XS.aloadN X4.here hx rfl (hb hby d7_4) rfl rfl ?_
    refine XS.aloadN X4.here hx rfl (hb hby d7_5) rfl rfl ?_
    refine st7 _ ?_
    refine XS.aloadN X7.here hx rfl (hb hby d7_9) rfl rfl ?_
    refine XS.iloadN X7.here hx rfl (hb hby d7_10) rfl ?_
    refine st11 _ ?_
    exact X11.returnOut hx Bd.returns (hb hby d7_14) hr
  · show Qrm7 Z a1 a2 p3 h0 n0 _ T11.heap _
    rw [e11]
    exact ⟨rfl, N11, K11, f12, f13, Fw11⟩
theorem pd_6 : parseMethodDescriptor "(Ljava/lang/String;I)V" = some ⟨[(.object "java/lang/String"), .int], none⟩ := by decide +kernel
theorem d9_0 : decode prog_10_method_2_code 0 = .ok (.new 17, 3) := by decide +kernel
theorem d9_3 : decode prog_10_method_2_code 3 = .ok (.dup, 1) := by decide +kernel
theorem d9_4 : decode prog_10_method_2_code 4 = .ok (.invokespecial 19, 3) := by decide +kernel
theorem d10_0 : decode jdk_67_method_1_code 0 = .ok (.aload_n 0, 1) := by decide +kernel
theorem d10_1 : decode jdk_67_method_1_code 1 = .ok (.bipush 16, 2) := by decide +kernel
theorem d10_3 : decode jdk_67_method_1_code 3 = .ok (.invokespecial 1, 3) := by decide +kernel
theorem d11_0 : decode jdk_68_method_2_code 0 = .ok (.aload_n 0, 1) := by decide +kernel
theorem d11_1 : decode jdk_68_method_2_code 1 = .ok (.invokespecial 3, 3) := by decide +kernel
theorem d11_4 : decode jdk_68_method_2_code 4 = .ok (.getstatic 18, 3) := by decide +kernel
theorem d11_7 : decode jdk_68_method_2_code 7 = .ok (.ifCond .eq 18, 3) := by decide +kernel
theorem d11_10 : decode jdk_68_method_2_code 10 = .ok (.aload_n 0, 1) := by decide +kernel
theorem d11_11 : decode jdk_68_method_2_code 11 = .ok (.iload_n 1, 1) := by decide +kernel
theorem d11_12 : decode jdk_68_method_2_code 12 = .ok (.newarray .byte, 2) := by decide +kernel
theorem d11_14 : decode jdk_68_method_2_code 14 = .ok (.putfield 15, 3) := by decide +kernel
theorem d11_17 : decode jdk_68_method_2_code 17 = .ok (.aload_n 0, 1) := by decide +kernel
theorem d11_18 : decode jdk_68_method_2_code 18 = .ok (.iconst 0, 1) := by decide +kernel
theorem d11_19 : decode jdk_68_method_2_code 19 = .ok (.putfield 22, 3) := by decide +kernel
theorem d11_22 : decode jdk_68_method_2_code 22 = .ok (.goto 16, 3) := by decide +kernel
theorem d11_38 : decode jdk_68_method_2_code 38 = .ok (.return_, 1) := by decide +kernel
theorem ef_11_RI (m : MethodId) (x0 : Addr) (x1 : Int32) : entryFrame m #[(.ref x0), (.int x1)] 2 = mkF m 0 #[vr x0, vi x1] [] := by first | (simp [entryFrame, mkF, argsToLocals, Value.category]; done) | rfl
theorem pn_7 : plainName "java/lang/AbstractStringBuilder" = true := by first | (simp [plainName, overriddenIn]; done) | decide +kernel
def Qrm11 (Z : State) (a1 : Addr) (p3 : Int32) (h0 : Heap) (n0 : Nat) (v : Option Value) (h : Heap) (L : List Loc) : Prop := ∃ b7 : Addr, ∃ k7 : ClassId, v = none ∧ Fr n0 L ∧ Keep h0 h [a1] ∧ h0.size ≤ b7 ∧ Exa Z h a1 "java/lang/StringBuilder" ∧ Fld Z h a1 "java/lang/AbstractStringBuilder" "value" "[B" (.ref b7) ∧ Fld Z h a1 "java/lang/AbstractStringBuilder" "coder" "B" (.int 0) ∧ Fld Z h a1 "java/lang/AbstractStringBuilder" "count" "I" (.int 0) ∧ Exa Z h b7 "[B" ∧ Arv Z h b7 k7 .byte (16 : Int32) [] (.int 0)
set_option maxRecDepth 65536 in
set_option maxHeartbeats 40000000 in
theorem rm11 (l : Launch) (Z : State) (a0 : Array Value) (hw : ∀ d ∈ tables_1, d.before a0 Z = true) (ws : List Jvm.Cond) (a1 : Addr) (p3 : Int32) (h0 : Heap) (n0 : Nat) (O0 : Old Z n0 h0) (S_4 : Sta Z Z.heap "java/lang/String" "COMPACT_STRINGS" "Z" (.int p3)) (hc6 : ¬ (p3 = (0 : Int32))) (E_8 : Exa Z h0 a1 "java/lang/StringBuilder") (F_9 : Fld Z h0 a1 "java/lang/AbstractStringBuilder" "value" "[B" .null) (g_a1 : n0 ≤ a1) (F_13 : Fld Z h0 a1 "java/lang/AbstractStringBuilder" "coder" "B" (.int 0)) (F_14 : Fld Z h0 a1 "java/lang/AbstractStringBuilder" "count" "I" (.int 0)) :
    MF l Z h0 (⟨"java/lang/AbstractStringBuilder", "<init>", "(I)V"⟩ : MethodName) jdk_68_method_2_code 2 none ws (⟨1, 1, 16, 12⟩ : Room) #[(.ref a1), (.int 16)] (Qrm11 Z a1 p3 h0 n0) := by
  refine MetFree.of_bodySF (plainFor_of_name pn_7) hisR ?_
  intro p e s m args below meth c s₁ Bd hml0 hP hK
  obtain ⟨rfl, hZ, hh⟩ := hP
  have hx := Bd.exec
  have hby := Bd.bytes
  have hml : c.maxLocals = 2 := hml0
  have hown : s.vm.findClass "java/lang/AbstractStringBuilder" = some m.cls := findClass_of_methodNamed Bd.named
  have X0 : Stand p l e (⟨1, 1, 16, 12⟩ : Room) s m #[(.ref a1), (.int 16)] below meth c s₁ [] 0 0 := Stand.of_body Bd
  have e0 : s₁.heap = h0 := by rw [← hh, Bd.state]; rfl
  have N0 := Fr.nil n0
  have pre0 : ∀ t, Steps p.tables e below (s₁.setTop (mkF m 0 #[vr a1, vi 16] [])) t → Steps p.tables e below (s₁.setTop (entryFrame m #[(.ref a1), (.int 16)] 2)) t := fun t k => castTop (ef_11_RI m a1 (16 : Int32)) k
  obtain ⟨T2, X2, e2, st2⟩ := initO X0 hx hZ hown (W hw 63 rfl) (W hw 12 rfl) (W hw 13 rfl) e0 (g := (mkF m 1 #[vr a1, vi 16] [(.ref a1)])) rfl (by rw [hml]; rfl) rfl (hb hby d11_1) (by decide) (W := 0) (by show 2 * 0 + _ ≤ _; exact Nat.le_of_eq rfl) (by decide)
  obtain ⟨T5, X5, e5, st5⟩ := getS2 X2 hx hZ hown (host := "") (Or.inl (W hw 64 rfl)) Via.refl e2 (S_4.ext O0.2) (g := (mkF m 4 #[vr a1, vi 16] [])) rfl (hb hby d11_4)
  obtain ⟨T7, h7, k7, X7, e7, E7, A7, B7, st7⟩ := newPE X5 hx hZ (W hw 19 rfl) e5 (g := (mkF m 12 #[vr a1, vi 16] [(.int 16), (.ref a1)])) rfl (hb hby d11_12) rfl (by decide) (cap := 16) (by decide) (by decide) (by decide) (by decide) (ad := "[B") (by decide)
  obtain ⟨b7, g7⟩ : ∃ z, z = h0.size := ⟨_, rfl⟩
  rw [← g7] at A7 B7 st7
  have sz_b7 := Nat.le_trans (Keep.refl h0 [a1]).1 (own_eqle g7)
  have K7 := (Keep.refl h0 [a1]).ext E7
  have V7 : Arv Z h7 b7 k7 .byte (16 : Int32) [] (.int 0) := Arv.new A7 (by decide)
  have f10 := (F_9.ext E7)
  have f11 := (E_8.ext E7)
  obtain ⟨T12, h12, X12, e12, W12, st12⟩ := putF X7 hx hZ hown (host := "") (Or.inl (W hw 65 rfl)) Via.refl e7 f10 f11 (Or.inl (W hw 66 rfl)) (W hw 52 rfl) (ty := (.array .byte)) (by decide) rfl rfl (g := (mkF m 14 #[vr a1, vi 16] [(.ref b7), (.ref a1)])) rfl rfl (hb hby d11_14)
  have K12 := K7.wr W12 (Or.inl (List.mem_of_getElem? (i := 0) rfl))
  have N12 := Fr.snoc X12 N0 g_a1
  have Fw12 := f10.same W12
  have f15 := ((F_13.ext E7).other W12 (Or.inr (slot_ne (Or.inl (W hw 68 rfl)) (Or.inl (W hw 66 rfl)) (by decide) (t := .byte) (t' := (.array .byte)) (by decide) (by decide))))
  have f16 := (f11.wr W12)
  obtain ⟨T17, h17, X17, e17, W17, st17⟩ := putFN X12 hx hZ hown (W hw 67 rfl) Via.refl e12 f15 f16 (Or.inl (W hw 68 rfl)) (W hw 52 rfl) (ty := .byte) (v' := (.int 0)) (by decide) rfl rfl (g := (mkF m 19 #[vr a1, vi 16] [(.int 0), (.ref a1)])) rfl rfl (hb hby d11_19)
  have K17 := K12.wr W17 (Or.inl (List.mem_of_getElem? (i := 0) rfl))
  have N17 := Fr.snoc X17 N12 g_a1
  have Fw17 := f15.same W17
  have f18 := (f16.wr W17)
  have f19 := (Fw12.other W17 (Or.inr (slot_ne (Or.inl (W hw 66 rfl)) (Or.inl (W hw 68 rfl)) (by decide) (t := (.array .byte)) (t' := .byte) (by decide) (by decide))))
  have f20 := (((F_14.ext E7).other W12 (Or.inr (slot_ne (Or.inl (W hw 90 rfl)) (Or.inl (W hw 66 rfl)) (by decide) (t := .int) (t' := (.array .byte)) (by decide) (by decide)))).other W17 (Or.inr (slot_ne (Or.inl (W hw 90 rfl)) (Or.inl (W hw 68 rfl)) (by decide) (t := .int) (t' := .byte) (by decide) (by decide))))
  have f21 := ((B7.wr W12).wr W17)
  have f22 := ((V7.other W12 (Ne.symm (own_ltn E_8.lt sz_b7))).other W17 (Ne.symm (own_ltn E_8.lt sz_b7)))
  obtain ⟨fs, hr, hrun, hended, hW, hsame⟩ := X17.leave (v := none) (fun _ => rfl)
  refine ⟨_, _, pre0 _ ?_, hrun, hended, _, _, rfl, ?_, ⟨_, rfl⟩, hW, hsame.mono (by decide) (by decide)⟩
  · show Steps p.tables e below (s₁.setTop (mkF m 0 #[vr a1, vi 16] [])) _
    refine XS.aloadN X0.here hx rfl (hb hby d11_0) rfl rfl ?_
    refine st2 _ ?_
    refine st5 _ ?_
    refine XS.ifNo X5.here hx rfl (hb hby d11_7) rfl ((if0 _ _).trans (feq (hc6 : ¬ (p3 = (0 : Int32)))).1) ?_
    refine XS.aloadN X5.here hx rfl (hb hby d11_10) rfl rfl ?_
    refine XS.iloadN X5.here hx rfl (hb hby d11_11) rfl ?_
    refine st7 _ ?_
    refine st12 _ ?_
    refine XS.aloadN X12.here hx rfl (hb hby d11_17) rfl rfl ?_
    refine XS.iconst X12.here hx rfl (hb hby d11_18) ?_
    show Steps p.tables e below (T12.setTop (mkF m 19 #[vr a1, vi 16] [(.int 0), (.ref a1)])) _
    refine st17 _ ?_
    refine XS.goto X17.here hx rfl (pc0 := 22) (pc' := 38) rfl (hb hby d11_22) (by decide) (by decide) ?_
    exact X17.returnOut hx Bd.returns (hb hby d11_38) hr
  · show Qrm11 Z a1 p3 h0 n0 _ T17.heap _
    rw [e17]
    exact ⟨b7, k7, rfl, N17, K17, sz_b7, f18, f19, Fw17, f20, f21, f22⟩
theorem pd_8 : parseMethodDescriptor "(I)V" = some ⟨[.int], none⟩ := by decide +kernel
theorem d10_6 : decode jdk_67_method_1_code 6 = .ok (.return_, 1) := by decide +kernel
theorem ef_10_R (m : MethodId) (x0 : Addr) : entryFrame m #[(.ref x0)] 1 = mkF m 0 #[vr x0] [] := by first | (simp [entryFrame, mkF, argsToLocals, Value.category]; done) | rfl
theorem pn_9 : plainName "java/lang/StringBuilder" = true := by first | (simp [plainName, overriddenIn]; done) | decide +kernel
def Qrm10 (Z : State) (a1 : Addr) (p2 : Int32) (h0 : Heap) (n0 : Nat) (v : Option Value) (h : Heap) (L : List Loc) : Prop := ∃ b10 : Addr, ∃ k11 : ClassId, v = none ∧ Fr n0 L ∧ Keep h0 h [a1] ∧ h0.size ≤ b10 ∧ Exa Z h a1 "java/lang/StringBuilder" ∧ Fld Z h a1 "java/lang/AbstractStringBuilder" "value" "[B" (.ref b10) ∧ Fld Z h a1 "java/lang/AbstractStringBuilder" "coder" "B" (.int 0) ∧ Fld Z h a1 "java/lang/AbstractStringBuilder" "count" "I" (.int 0) ∧ Exa Z h b10 "[B" ∧ Arv Z h b10 k11 .byte (16 : Int32) [] (.int 0)
set_option maxRecDepth 65536 in
set_option maxHeartbeats 40000000 in
theorem rm10 (l : Launch) (Z : State) (a0 : Array Value) (hw : ∀ d ∈ tables_1, d.before a0 Z = true) (ws : List Jvm.Cond) (a1 : Addr) (p2 : Int32) (h0 : Heap) (n0 : Nat) (O0 : Old Z n0 h0) (S_3 : Sta Z Z.heap "java/lang/String" "COMPACT_STRINGS" "Z" (.int p2)) (hc4 : ¬ (p2 = (0 : Int32))) (E_5 : Exa Z h0 a1 "java/lang/StringBuilder") (F_6 : Fld Z h0 a1 "java/lang/AbstractStringBuilder" "value" "[B" .null) (g_a1 : n0 ≤ a1) (F_7 : Fld Z h0 a1 "java/lang/AbstractStringBuilder" "coder" "B" (.int 0)) (F_8 : Fld Z h0 a1 "java/lang/AbstractStringBuilder" "count" "I" (.int 0)) :
    MF l Z h0 (⟨"java/lang/StringBuilder", "<init>", "()V"⟩ : MethodName) jdk_67_method_1_code 1 none ws (⟨2, 1, 16, 25⟩ : Room) #[(.ref a1)] (Qrm10 Z a1 p2 h0 n0) := by
  refine MetFree.of_bodySF (plainFor_of_name pn_9) hisR ?_
  intro p e s m args below meth c s₁ Bd hml0 hP hK
  obtain ⟨rfl, hZ, hh⟩ := hP
  have hx := Bd.exec
  have hby := Bd.bytes
  have hml : c.maxLocals = 1 := hml0
  have hown : s.vm.findClass "java/lang/StringBuilder" = some m.cls := findClass_of_methodNamed Bd.named
  have X0 : Stand p l e (⟨2, 1, 16, 25⟩ : Room) s m #[(.ref a1)] below meth c s₁ [] 0 0 := Stand.of_body Bd
  have e0 : s₁.heap = h0 := by rw [← hh, Bd.state]; rfl
  have N0 := Fr.nil n0
  have pre0 : ∀ t, Steps p.tables e below (s₁.setTop (mkF m 0 #[vr a1] [])) t → Steps p.tables e below (s₁.setTop (entryFrame m #[(.ref a1)] 1)) t := fun t k => castTop (ef_10_R m a1) k
  obtain ⟨_, T9, L9, X9, hQ9, st9⟩ := cI X0 hx hZ hown (W hw 57 rfl) (W hw 58 rfl) (W hw 62 rfl) (W hw 61 rfl) rfl (by decide) (rm11 l Z a0 hw [] a1 p2 h0 n0 O0 S_3 hc4 E_5 F_6 g_a1 F_7 F_8) e0 #[vr a1] [] (by rw [hml]; rfl) (hb hby d10_3) pd_8 rfl (W := 0) (Nat.le_of_eq rfl) (by decide) (by decide) (by decide) (by decide)
  obtain ⟨b10, k11, rfl, Nq9, K9, sq9_b10, P9_0, P9_1, P9_2, P9_3, P9_4, P9_5⟩ := hQ9
  have N9 := Fr.app N0 Nq9
  have sz_b10 := Nat.le_trans (Keep.refl h0 [a1]).1 sq9_b10
  have KK9 := Keep.trans (h := h0) (Keep.refl h0 [a1]) K9 (allS (Or.inl (List.mem_of_getElem? (i := 0) rfl)) all0)
  obtain ⟨fs, hr, hrun, hended, hW, hsame⟩ := X9.leave (v := none) (fun _ => rfl)
  refine ⟨_, _, pre0 _ ?_, hrun, hended, _, _, rfl, ?_, ⟨_, rfl⟩, hW, hsame.mono (by decide) (by decide)⟩
  · show Steps p.tables e below (s₁.setTop (mkF m 0 #[vr a1] [])) _
    refine XS.aloadN X0.here hx rfl (hb hby d10_0) rfl rfl ?_
    refine XS.bipush X0.here hx rfl (hb hby d10_1) ?_
    refine st9 _ ?_
    exact X9.returnOut hx Bd.returns (hb hby d10_6) hr
  · show Qrm10 Z a1 p2 h0 n0 _ T9.heap _
    exact ⟨b10, k11, rfl, N9, KK9, sz_b10, P9_0, P9_1, P9_2, P9_3, P9_4, P9_5⟩
theorem d9_7 : decode prog_10_method_2_code 7 = .ok (.aload_n 0, 1) := by decide +kernel
theorem d9_8 : decode prog_10_method_2_code 8 = .ok (.getfield 7, 3) := by decide +kernel
theorem d9_11 : decode prog_10_method_2_code 11 = .ok (.invokevirtual 20, 3) := by decide +kernel
theorem d12_0 : decode jdk_67_method_7_code 0 = .ok (.aload_n 0, 1) := by decide +kernel
theorem d12_1 : decode jdk_67_method_7_code 1 = .ok (.aload_n 1, 1) := by decide +kernel
theorem d12_2 : decode jdk_67_method_7_code 2 = .ok (.invokespecial 29, 3) := by decide +kernel
theorem d13_0 : decode jdk_68_method_22_code 0 = .ok (.aload_n 1, 1) := by decide +kernel
theorem d13_1 : decode jdk_68_method_22_code 1 = .ok (.ifnonnull 8, 3) := by decide +kernel
theorem d13_9 : decode jdk_68_method_22_code 9 = .ok (.aload_n 1, 1) := by decide +kernel
theorem d13_10 : decode jdk_68_method_22_code 10 = .ok (.invokevirtual 32, 3) := by decide +kernel
theorem d14_0 : decode jdk_42_method_54_code 0 = .ok (.aload_n 0, 1) := by decide +kernel
theorem d14_1 : decode jdk_42_method_54_code 1 = .ok (.getfield 9, 3) := by decide +kernel
theorem d14_4 : decode jdk_42_method_54_code 4 = .ok (.arraylength, 1) := by decide +kernel
theorem d14_5 : decode jdk_42_method_54_code 5 = .ok (.aload_n 0, 1) := by decide +kernel
theorem d14_6 : decode jdk_42_method_54_code 6 = .ok (.invokevirtual 335, 3) := by decide +kernel
theorem d15_0 : decode jdk_42_method_152_code 0 = .ok (.getstatic 38, 3) := by decide +kernel
theorem d15_3 : decode jdk_42_method_152_code 3 = .ok (.ifCond .eq 10, 3) := by decide +kernel
theorem d15_6 : decode jdk_42_method_152_code 6 = .ok (.aload_n 0, 1) := by decide +kernel
theorem d15_7 : decode jdk_42_method_152_code 7 = .ok (.getfield 15, 3) := by decide +kernel
theorem d15_10 : decode jdk_42_method_152_code 10 = .ok (.goto 4, 3) := by decide +kernel
theorem d15_14 : decode jdk_42_method_152_code 14 = .ok (.ireturn, 1) := by decide +kernel
theorem ef_15_R (m : MethodId) (x0 : Addr) : entryFrame m #[(.ref x0)] 1 = mkF m 0 #[vr x0] [] := by first | (simp [entryFrame, mkF, argsToLocals, Value.category]; done) | rfl
def Qrm15 (Z : State) (a1 : Addr) (p2 : Int32) (h0 : Heap) (n0 : Nat) (v : Option Value) (h : Heap) (L : List Loc) : Prop := v = some (.int 0) ∧ Fr n0 L ∧ h = h0
set_option maxRecDepth 65536 in
set_option maxHeartbeats 40000000 in
theorem rm15 (l : Launch) (Z : State) (a0 : Array Value) (hw : ∀ d ∈ tables_1, d.before a0 Z = true) (ws : List Jvm.Cond) (a1 : Addr) (p2 : Int32) (h0 : Heap) (n0 : Nat) (O0 : Old Z n0 h0) (S_3 : Sta Z Z.heap "java/lang/String" "COMPACT_STRINGS" "Z" (.int p2)) (hc5 : ¬ (p2 = (0 : Int32))) (F_6 : Fld Z h0 a1 "java/lang/String" "coder" "B" (.int 0)) :
    MF l Z h0 (⟨"java/lang/String", "coder", "()B"⟩ : MethodName) jdk_42_method_152_code 1 (some .byte) ws (⟨0, 0, 0, 0⟩ : Room) #[(.ref a1)] (Qrm15 Z a1 p2 h0 n0) := by
  refine MetFree.of_bodySF (plainFor_of_name pn_0) hisR ?_
  intro p e s m args below meth c s₁ Bd hml0 hP hK
  obtain ⟨rfl, hZ, hh⟩ := hP
  have hx := Bd.exec
  have hby := Bd.bytes
  have hown : s.vm.findClass "java/lang/String" = some m.cls := findClass_of_methodNamed Bd.named
  have X0 : Stand p l e (⟨0, 0, 0, 0⟩ : Room) s m #[(.ref a1)] below meth c s₁ [] 0 0 := Stand.of_body Bd
  have e0 : s₁.heap = h0 := by rw [← hh, Bd.state]; rfl
  have N0 := Fr.nil n0
  have pre0 : ∀ t, Steps p.tables e below (s₁.setTop (mkF m 0 #[vr a1] [])) t → Steps p.tables e below (s₁.setTop (entryFrame m #[(.ref a1)] 1)) t := fun t k => castTop (ef_15_R m a1) k
  obtain ⟨T4, X4, e4, st4⟩ := getS2 X0 hx hZ hown (host := "") (Or.inl (W hw 14 rfl)) Via.refl e0 (S_3.ext O0.2) (g := (mkF m 0 #[vr a1] [])) rfl (hb hby d15_0)
  obtain ⟨T7, X7, e7, st7⟩ := getF X4 hx hZ hown (host := "") (Or.inl (W hw 26 rfl)) Via.refl e4 F_6 (g := (mkF m 7 #[vr a1] [(.ref a1)])) rfl rfl (hb hby d15_7)
  obtain ⟨fs, hr, hrun, hended, hW, hsame⟩ := X7.leave (v := some (.int 0)) (fun h => by rw [Bd.returns] at h; cases h)
  refine ⟨_, _, pre0 _ ?_, hrun, hended, _, _, rfl, ?_, ⟨_, rfl⟩, hW, hsame.mono (by decide) (by decide)⟩
  · show Steps p.tables e below (s₁.setTop (mkF m 0 #[vr a1] [])) _
    refine st4 _ ?_
    refine XS.ifNo X4.here hx rfl (hb hby d15_3) rfl ((if0 _ _).trans (feq (hc5 : ¬ (p2 = (0 : Int32)))).1) ?_
    refine XS.aloadN X4.here hx rfl (hb hby d15_6) rfl rfl ?_
    refine st7 _ ?_
    refine XS.goto X7.here hx rfl (pc0 := 10) (pc' := 14) rfl (hb hby d15_10) (by decide) (by decide) ?_
    exact retN X7 hx (t := .byte) Bd.returns (by simp) (hb hby d15_14) hr
  · show Qrm15 Z a1 p2 h0 n0 _ T7.heap _
    rw [e7]
    exact ⟨rfl, N0, rfl⟩
theorem pd_10 : parseMethodDescriptor "()B" = some ⟨[], some .byte⟩ := by decide +kernel
theorem d14_9 : decode jdk_42_method_54_code 9 = .ok (.ishr, 1) := by decide +kernel
theorem d14_10 : decode jdk_42_method_54_code 10 = .ok (.ireturn, 1) := by decide +kernel
theorem ef_14_R (m : MethodId) (x0 : Addr) : entryFrame m #[(.ref x0)] 1 = mkF m 0 #[vr x0] [] := by first | (simp [entryFrame, mkF, argsToLocals, Value.category]; done) | rfl
def Qrm14 (Z : State) (a1 : Addr) (a2 : Addr) (k5 : ClassId) (p6 : Int32) (k7 : (Nat → Int32)) (p11 : Int32) (h0 : Heap) (n0 : Nat) (v : Option Value) (h : Heap) (L : List Loc) : Prop := v = some (.int p6) ∧ Fr n0 L ∧ h = h0
set_option maxRecDepth 65536 in
set_option maxHeartbeats 40000000 in
theorem rm14 (l : Launch) (Z : State) (a0 : Array Value) (hw : ∀ d ∈ tables_1, d.before a0 Z = true) (ws : List Jvm.Cond) (a1 : Addr) (a2 : Addr) (k5 : ClassId) (p6 : Int32) (k7 : (Nat → Int32)) (p11 : Int32) (h0 : Heap) (n0 : Nat) (O0 : Old Z n0 h0) (F_3 : Fld Z h0 a1 "java/lang/String" "value" "[B" (.ref a2)) (V_8 : Arv Z h0 a2 k5 .byte p6 (own_bs k7) (.int (0 : Int32))) (E_10 : Exa Z h0 a1 "java/lang/String") (S_12 : Sta Z Z.heap "java/lang/String" "COMPACT_STRINGS" "Z" (.int p11)) (hc13 : ¬ (p11 = (0 : Int32))) (F_14 : Fld Z h0 a1 "java/lang/String" "coder" "B" (.int 0)) :
    MF l Z h0 (⟨"java/lang/String", "length", "()I"⟩ : MethodName) jdk_42_method_54_code 1 (some .int) ws (⟨1, 0, 0, 13⟩ : Room) #[(.ref a1)] (Qrm14 Z a1 a2 k5 p6 k7 p11 h0 n0) := by
  refine MetFree.of_bodySF (plainFor_of_name pn_0) hisR ?_
  intro p e s m args below meth c s₁ Bd hml0 hP hK
  obtain ⟨rfl, hZ, hh⟩ := hP
  have hx := Bd.exec
  have hby := Bd.bytes
  have hml : c.maxLocals = 1 := hml0
  have hown : s.vm.findClass "java/lang/String" = some m.cls := findClass_of_methodNamed Bd.named
  have X0 : Stand p l e (⟨1, 0, 0, 13⟩ : Room) s m #[(.ref a1)] below meth c s₁ [] 0 0 := Stand.of_body Bd
  have e0 : s₁.heap = h0 := by rw [← hh, Bd.state]; rfl
  have N0 := Fr.nil n0
  have pre0 : ∀ t, Steps p.tables e below (s₁.setTop (mkF m 0 #[vr a1] [])) t → Steps p.tables e below (s₁.setTop (entryFrame m #[(.ref a1)] 1)) t := fun t k => castTop (ef_14_R m a1) k
  obtain ⟨T4, X4, e4, st4⟩ := getF X0 hx hZ hown (host := "") (Or.inl (W hw 28 rfl)) Via.refl e0 F_3 (g := (mkF m 1 #[vr a1] [(.ref a1)])) rfl rfl (hb hby d14_1)
  obtain ⟨cl9, Ar9, q9, S9, M9, Hs9, G9⟩ := id V_8
  obtain ⟨_, T15, L15, X15, hQ15, st15⟩ := cV X4 hx hZ hown (W hw 84 rfl) (W hw 85 rfl) (notFace_of_selects (args := #[]) (mvT hZ (W hw 87 rfl))) (W hw 87 rfl) (W hw 86 rfl) (W hw 88 rfl) (W hw 2 rfl) (by decide) (rm15 l Z a0 hw [] a1 p11 h0 n0 O0 S_12 hc13 F_14) e4 E_10 #[vr a1] [(.int p6)] (by rw [hml]; rfl) (hb hby d14_6) pd_10 rfl (W := 1) (Nat.le_of_eq rfl) (by decide) (by decide) (by decide) (by decide)
  obtain ⟨rfl, Nq15, e15⟩ := hQ15
  have N15 := Fr.app N0 Nq15
  obtain ⟨fs, hr, hrun, hended, hW, hsame⟩ := X15.leave (v := some (.int p6)) (fun h => by rw [Bd.returns] at h; cases h)
  refine ⟨_, _, pre0 _ ?_, hrun, hended, _, _, rfl, ?_, ⟨_, rfl⟩, hW, hsame.mono (by decide) (by decide)⟩
  · show Steps p.tables e below (s₁.setTop (mkF m 0 #[vr a1] [])) _
    refine XS.aloadN X0.here hx rfl (hb hby d14_0) rfl rfl ?_
    refine st4 _ ?_
    refine X4.arraylength hx (by rw [e4]; exact Ar9.1) (State.isArrayOf_alike hZ.alike Ar9.2.1) (g := (mkF m 4 #[vr a1] [(.ref a2)])) rfl rfl (hb hby d14_4) _ ?_
    rw [len_of S9 M9]
    refine XS.aloadN X4.here hx rfl (hb hby d14_5) rfl rfl ?_
    refine st15 _ ?_
    refine XS.ishr X15.here hx rfl (hb hby d14_9) rfl ?_
    show Steps p.tables e below (T15.setTop (mkF m 10 #[vr a1] [(.int (p6 >>> ((0 : Int32) &&& 31)))])) _
    rw [show (p6 >>> ((0 : Int32) &&& 31)) = p6 from own_ishr0 _]
    exact retI X15 hx Bd.returns (hb hby d14_10) hr
  · show Qrm14 Z a1 a2 k5 p6 k7 p11 h0 n0 _ T15.heap _
    rw [e15]
    exact ⟨rfl, N15, rfl⟩
theorem pd_11 : parseMethodDescriptor "()I" = some ⟨[], some .int⟩ := by decide +kernel
theorem d13_13 : decode jdk_68_method_22_code 13 = .ok (.istore_n 2, 1) := by decide +kernel
theorem d13_14 : decode jdk_68_method_22_code 14 = .ok (.aload_n 0, 1) := by decide +kernel
theorem d13_15 : decode jdk_68_method_22_code 15 = .ok (.aload_n 0, 1) := by decide +kernel
theorem d13_16 : decode jdk_68_method_22_code 16 = .ok (.getfield 79, 3) := by decide +kernel
theorem d13_19 : decode jdk_68_method_22_code 19 = .ok (.iload_n 2, 1) := by decide +kernel
theorem d13_20 : decode jdk_68_method_22_code 20 = .ok (.iadd, 1) := by decide +kernel
theorem d13_21 : decode jdk_68_method_22_code 21 = .ok (.invokevirtual 100, 3) := by decide +kernel
theorem d16_0 : decode jdk_68_method_9_code 0 = .ok (.aload_n 0, 1) := by decide +kernel
theorem d16_1 : decode jdk_68_method_9_code 1 = .ok (.getfield 15, 3) := by decide +kernel
theorem d16_4 : decode jdk_68_method_9_code 4 = .ok (.arraylength, 1) := by decide +kernel
theorem d16_5 : decode jdk_68_method_9_code 5 = .ok (.aload_n 0, 1) := by decide +kernel
theorem d16_6 : decode jdk_68_method_9_code 6 = .ok (.getfield 22, 3) := by decide +kernel
theorem d16_9 : decode jdk_68_method_9_code 9 = .ok (.ishr, 1) := by decide +kernel
theorem d16_10 : decode jdk_68_method_9_code 10 = .ok (.istore_n 2, 1) := by decide +kernel
theorem d16_11 : decode jdk_68_method_9_code 11 = .ok (.iload_n 1, 1) := by decide +kernel
theorem d16_12 : decode jdk_68_method_9_code 12 = .ok (.iload_n 2, 1) := by decide +kernel
theorem d16_13 : decode jdk_68_method_9_code 13 = .ok (.isub, 1) := by decide +kernel
theorem d16_14 : decode jdk_68_method_9_code 14 = .ok (.ifCond .le 24, 3) := by decide +kernel
theorem d16_38 : decode jdk_68_method_9_code 38 = .ok (.return_, 1) := by decide +kernel
theorem ef_16_RI (m : MethodId) (x0 : Addr) (x1 : Int32) : entryFrame m #[(.ref x0), (.int x1)] 3 = mkF m 0 #[vr x0, vi x1, .unset] [] := by first | (simp [entryFrame, mkF, argsToLocals, Value.category]; done) | rfl
def Qrm16 (Z : State) (a1 : Addr) (p2 : Int32) (a3 : Addr) (k6 : ClassId) (h0 : Heap) (n0 : Nat) (v : Option Value) (h : Heap) (L : List Loc) : Prop := v = none ∧ Fr n0 L ∧ h = h0
set_option maxRecDepth 65536 in
set_option maxHeartbeats 40000000 in
theorem rm16 (l : Launch) (Z : State) (a0 : Array Value) (hw : ∀ d ∈ tables_1, d.before a0 Z = true) (ws : List Jvm.Cond) (a1 : Addr) (p2 : Int32) (a3 : Addr) (k6 : ClassId) (h0 : Heap) (n0 : Nat) (O0 : Old Z n0 h0) (F_4 : Fld Z h0 a1 "java/lang/AbstractStringBuilder" "value" "[B" (.ref a3)) (V_7 : Arv Z h0 a3 k6 .byte (16 : Int32) [] (.int 0)) (F_9 : Fld Z h0 a1 "java/lang/AbstractStringBuilder" "coder" "B" (.int 0)) (hc11 : ¬ ((0 : Int32) < (p2 - (16 : Int32)))) :
    MF l Z h0 (⟨"java/lang/AbstractStringBuilder", "ensureCapacityInternal", "(I)V"⟩ : MethodName) jdk_68_method_9_code 3 none ws (⟨0, 0, 0, 0⟩ : Room) #[(.ref a1), (.int p2)] (Qrm16 Z a1 p2 a3 k6 h0 n0) := by
  refine MetFree.of_bodySF (plainFor_of_name pn_7) hisR ?_
  intro p e s m args below meth c s₁ Bd hml0 hP hK
  obtain ⟨rfl, hZ, hh⟩ := hP
  have hx := Bd.exec
  have hby := Bd.bytes
  have hown : s.vm.findClass "java/lang/AbstractStringBuilder" = some m.cls := findClass_of_methodNamed Bd.named
  have X0 : Stand p l e (⟨0, 0, 0, 0⟩ : Room) s m #[(.ref a1), (.int p2)] below meth c s₁ [] 0 0 := Stand.of_body Bd
  have e0 : s₁.heap = h0 := by rw [← hh, Bd.state]; rfl
  have N0 := Fr.nil n0
  have pre0 : ∀ t, Steps p.tables e below (s₁.setTop (mkF m 0 #[vr a1, vi p2, .unset] [])) t → Steps p.tables e below (s₁.setTop (entryFrame m #[(.ref a1), (.int p2)] 3)) t := fun t k => castTop (ef_16_RI m a1 p2) k
  obtain ⟨T5, X5, e5, st5⟩ := getF X0 hx hZ hown (host := "") (Or.inl (W hw 65 rfl)) Via.refl e0 F_4 (g := (mkF m 1 #[vr a1, vi p2, .unset] [(.ref a1)])) rfl rfl (hb hby d16_1)
  obtain ⟨cl8, Ar8, q8, S8, M8, Hs8, G8⟩ := id V_7
  obtain ⟨T10, X10, e10, st10⟩ := getF X5 hx hZ hown (host := "") (Or.inl (W hw 67 rfl)) Via.refl e5 F_9 (g := (mkF m 6 #[vr a1, vi p2, .unset] [(.ref a1), (.int 16)])) rfl rfl (hb hby d16_6)
  obtain ⟨fs, hr, hrun, hended, hW, hsame⟩ := X10.leave (v := none) (fun _ => rfl)
  refine ⟨_, _, pre0 _ ?_, hrun, hended, _, _, rfl, ?_, ⟨_, rfl⟩, hW, hsame.mono (by decide) (by decide)⟩
  · show Steps p.tables e below (s₁.setTop (mkF m 0 #[vr a1, vi p2, .unset] [])) _
    refine XS.aloadN X0.here hx rfl (hb hby d16_0) rfl rfl ?_
    refine st5 _ ?_
    refine X5.arraylength hx (by rw [e5]; exact Ar8.1) (State.isArrayOf_alike hZ.alike Ar8.2.1) (g := (mkF m 4 #[vr a1, vi p2, .unset] [(.ref a3)])) rfl rfl (hb hby d16_4) _ ?_
    rw [len_of S8 M8]
    refine XS.aloadN X5.here hx rfl (hb hby d16_5) rfl rfl ?_
    refine st10 _ ?_
    refine XS.ishr X10.here hx rfl (hb hby d16_9) rfl ?_
    show Steps p.tables e below (T10.setTop (mkF m 10 #[vr a1, vi p2, .unset] [(.int ((16 : Int32) >>> ((0 : Int32) &&& 31)))])) _
    rw [show ((16 : Int32) >>> ((0 : Int32) &&& 31)) = (16 : Int32) from by decide]
    refine XS.istoreN X10.here hx rfl (hb hby d16_10) rfl (l' := #[vr a1, vi p2, vi 16]) rfl ?_
    refine XS.iloadN X10.here hx rfl (hb hby d16_11) rfl ?_
    refine XS.iloadN X10.here hx rfl (hb hby d16_12) rfl ?_
    refine XS.isub X10.here hx rfl (hb hby d16_13) rfl ?_
    refine XS.ifYes X10.here hx rfl (pc0 := 14) (pc' := 38) rfl (hb hby d16_14) rfl ((if0 _ _).trans (flt (hc11 : ¬ ((0 : Int32) < (p2 - (16 : Int32))))).2.2.2) (by decide) (by decide) ?_
    exact X10.returnOut hx Bd.returns (hb hby d16_38) hr
  · show Qrm16 Z a1 p2 a3 k6 h0 n0 _ T10.heap _
    rw [e10]
    exact ⟨rfl, N0, rfl⟩
theorem d13_24 : decode jdk_68_method_22_code 24 = .ok (.aload_n 0, 1) := by decide +kernel
theorem d13_25 : decode jdk_68_method_22_code 25 = .ok (.aload_n 0, 1) := by decide +kernel
theorem d13_26 : decode jdk_68_method_22_code 26 = .ok (.getfield 79, 3) := by decide +kernel
theorem d13_29 : decode jdk_68_method_22_code 29 = .ok (.aload_n 1, 1) := by decide +kernel
theorem d13_30 : decode jdk_68_method_22_code 30 = .ok (.invokevirtual 208, 3) := by decide +kernel
theorem d17_0 : decode jdk_68_method_73_code 0 = .ok (.aload_n 0, 1) := by decide +kernel
theorem d17_1 : decode jdk_68_method_73_code 1 = .ok (.aload_n 2, 1) := by decide +kernel
theorem d17_2 : decode jdk_68_method_73_code 2 = .ok (.invokevirtual 397, 3) := by decide +kernel
theorem d18_0 : decode jdk_68_method_71_code 0 = .ok (.getstatic 18, 3) := by decide +kernel
theorem d18_3 : decode jdk_68_method_71_code 3 = .ok (.ifCond .eq 18, 3) := by decide +kernel
theorem d18_6 : decode jdk_68_method_71_code 6 = .ok (.aload_n 0, 1) := by decide +kernel
theorem d18_7 : decode jdk_68_method_71_code 7 = .ok (.getfield 22, 3) := by decide +kernel
theorem d18_10 : decode jdk_68_method_71_code 10 = .ok (.aload_n 1, 1) := by decide +kernel
theorem d18_11 : decode jdk_68_method_71_code 11 = .ok (.invokevirtual 40, 3) := by decide +kernel
theorem d18_14 : decode jdk_68_method_71_code 14 = .ok (.if_icmp .eq 7, 3) := by decide +kernel
theorem d18_21 : decode jdk_68_method_71_code 21 = .ok (.return_, 1) := by decide +kernel
theorem ef_18_RR (m : MethodId) (x0 : Addr) (x1 : Addr) : entryFrame m #[(.ref x0), (.ref x1)] 2 = mkF m 0 #[vr x0, vr x1] [] := by first | (simp [entryFrame, mkF, argsToLocals, Value.category]; done) | rfl
def Qrm18 (Z : State) (a1 : Addr) (a2 : Addr) (p3 : Int32) (h0 : Heap) (n0 : Nat) (v : Option Value) (h : Heap) (L : List Loc) : Prop := v = none ∧ Fr n0 L ∧ h = h0
set_option maxRecDepth 65536 in
set_option maxHeartbeats 40000000 in
theorem rm18 (l : Launch) (Z : State) (a0 : Array Value) (hw : ∀ d ∈ tables_1, d.before a0 Z = true) (ws : List Jvm.Cond) (a1 : Addr) (a2 : Addr) (p3 : Int32) (h0 : Heap) (n0 : Nat) (O0 : Old Z n0 h0) (S_4 : Sta Z Z.heap "java/lang/String" "COMPACT_STRINGS" "Z" (.int p3)) (hc6 : ¬ (p3 = (0 : Int32))) (F_7 : Fld Z h0 a1 "java/lang/AbstractStringBuilder" "coder" "B" (.int 0)) (E_9 : Exa Z h0 a2 "java/lang/String") (F_10 : Fld Z h0 a2 "java/lang/String" "coder" "B" (.int 0)) :
    MF l Z h0 (⟨"java/lang/AbstractStringBuilder", "inflateIfNeededFor", "(Ljava/lang/String;)V"⟩ : MethodName) jdk_68_method_71_code 2 none ws (⟨1, 0, 0, 13⟩ : Room) #[(.ref a1), (.ref a2)] (Qrm18 Z a1 a2 p3 h0 n0) := by
  refine MetFree.of_bodySF (plainFor_of_name pn_7) hisR ?_
  intro p e s m args below meth c s₁ Bd hml0 hP hK
  obtain ⟨rfl, hZ, hh⟩ := hP
  have hx := Bd.exec
  have hby := Bd.bytes
  have hml : c.maxLocals = 2 := hml0
  have hown : s.vm.findClass "java/lang/AbstractStringBuilder" = some m.cls := findClass_of_methodNamed Bd.named
  have X0 : Stand p l e (⟨1, 0, 0, 13⟩ : Room) s m #[(.ref a1), (.ref a2)] below meth c s₁ [] 0 0 := Stand.of_body Bd
  have e0 : s₁.heap = h0 := by rw [← hh, Bd.state]; rfl
  have N0 := Fr.nil n0
  have pre0 : ∀ t, Steps p.tables e below (s₁.setTop (mkF m 0 #[vr a1, vr a2] [])) t → Steps p.tables e below (s₁.setTop (entryFrame m #[(.ref a1), (.ref a2)] 2)) t := fun t k => castTop (ef_18_RR m a1 a2) k
  obtain ⟨T5, X5, e5, st5⟩ := getS2 X0 hx hZ hown (host := "") (Or.inl (W hw 64 rfl)) Via.refl e0 (S_4.ext O0.2) (g := (mkF m 0 #[vr a1, vr a2] [])) rfl (hb hby d18_0)
  obtain ⟨T8, X8, e8, st8⟩ := getF X5 hx hZ hown (host := "") (Or.inl (W hw 67 rfl)) Via.refl e5 F_7 (g := (mkF m 7 #[vr a1, vr a2] [(.ref a1)])) rfl rfl (hb hby d18_7)
  obtain ⟨_, T11, L11, X11, hQ11, st11⟩ := cV X8 hx hZ hown (W hw 106 rfl) (W hw 85 rfl) (notFace_of_selects (args := #[]) (mvT hZ (W hw 87 rfl))) (W hw 87 rfl) (W hw 86 rfl) (W hw 88 rfl) (W hw 2 rfl) (by decide) (rm15 l Z a0 hw [] a2 p3 h0 n0 O0 S_4 hc6 F_10) e8 E_9 #[vr a1, vr a2] [(.int 0)] (by rw [hml]; rfl) (hb hby d18_11) pd_10 rfl (W := 1) (Nat.le_of_eq rfl) (by decide) (by decide) (by decide) (by decide)
  obtain ⟨rfl, Nq11, e11⟩ := hQ11
  have N11 := Fr.app N0 Nq11
  obtain ⟨fs, hr, hrun, hended, hW, hsame⟩ := X11.leave (v := none) (fun _ => rfl)
  refine ⟨_, _, pre0 _ ?_, hrun, hended, _, _, rfl, ?_, ⟨_, rfl⟩, hW, hsame.mono (by decide) (by decide)⟩
  · show Steps p.tables e below (s₁.setTop (mkF m 0 #[vr a1, vr a2] [])) _
    refine st5 _ ?_
    refine XS.ifNo X5.here hx rfl (hb hby d18_3) rfl ((if0 _ _).trans (feq (hc6 : ¬ (p3 = (0 : Int32)))).1) ?_
    refine XS.aloadN X5.here hx rfl (hb hby d18_6) rfl rfl ?_
    refine st8 _ ?_
    refine XS.aloadN X8.here hx rfl (hb hby d18_10) rfl rfl ?_
    refine st11 _ ?_
    refine XS.icmpYes X11.here hx rfl (pc0 := 14) (pc' := 21) rfl (hb hby d18_14) rfl (teq ((by decide) : (0 : Int32) = (0 : Int32))).1 (by decide) (by decide) ?_
    exact X11.returnOut hx Bd.returns (hb hby d18_21) hr
  · show Qrm18 Z a1 a2 p3 h0 n0 _ T11.heap _
    rw [e11]
    exact ⟨rfl, N11, rfl⟩
theorem pd_12 : parseMethodDescriptor "(Ljava/lang/String;)V" = some ⟨[(.object "java/lang/String")], none⟩ := by decide +kernel
theorem d17_5 : decode jdk_68_method_73_code 5 = .ok (.aload_n 2, 1) := by decide +kernel
theorem d17_6 : decode jdk_68_method_73_code 6 = .ok (.aload_n 0, 1) := by decide +kernel
theorem d17_7 : decode jdk_68_method_73_code 7 = .ok (.getfield 15, 3) := by decide +kernel
theorem d17_10 : decode jdk_68_method_73_code 10 = .ok (.iload_n 1, 1) := by decide +kernel
theorem d17_11 : decode jdk_68_method_73_code 11 = .ok (.aload_n 0, 1) := by decide +kernel
theorem d17_12 : decode jdk_68_method_73_code 12 = .ok (.getfield 22, 3) := by decide +kernel
theorem d17_15 : decode jdk_68_method_73_code 15 = .ok (.invokevirtual 399, 3) := by decide +kernel
theorem d19_0 : decode jdk_42_method_147_code 0 = .ok (.aload_n 0, 1) := by decide +kernel
theorem d19_1 : decode jdk_42_method_147_code 1 = .ok (.invokevirtual 335, 3) := by decide +kernel
theorem d19_4 : decode jdk_42_method_147_code 4 = .ok (.iload_n 3, 1) := by decide +kernel
theorem d19_5 : decode jdk_42_method_147_code 5 = .ok (.if_icmp .ne 23, 3) := by decide +kernel
theorem d19_8 : decode jdk_42_method_147_code 8 = .ok (.aload_n 0, 1) := by decide +kernel
theorem d19_9 : decode jdk_42_method_147_code 9 = .ok (.getfield 9, 3) := by decide +kernel
theorem d19_12 : decode jdk_42_method_147_code 12 = .ok (.iconst 0, 1) := by decide +kernel
theorem d19_13 : decode jdk_42_method_147_code 13 = .ok (.aload_n 1, 1) := by decide +kernel
theorem d19_14 : decode jdk_42_method_147_code 14 = .ok (.iload_n 2, 1) := by decide +kernel
theorem d19_15 : decode jdk_42_method_147_code 15 = .ok (.iload_n 3, 1) := by decide +kernel
theorem d19_16 : decode jdk_42_method_147_code 16 = .ok (.ishl, 1) := by decide +kernel
theorem d19_17 : decode jdk_42_method_147_code 17 = .ok (.aload_n 0, 1) := by decide +kernel
theorem d19_18 : decode jdk_42_method_147_code 18 = .ok (.getfield 9, 3) := by decide +kernel
theorem d19_21 : decode jdk_42_method_147_code 21 = .ok (.arraylength, 1) := by decide +kernel
theorem d19_22 : decode jdk_42_method_147_code 22 = .ok (.invokestatic 212, 3) := by decide +kernel
theorem d19_25 : decode jdk_42_method_147_code 25 = .ok (.goto 18, 3) := by decide +kernel
theorem d19_43 : decode jdk_42_method_147_code 43 = .ok (.return_, 1) := by decide +kernel
theorem ef_19_RRII (m : MethodId) (x0 : Addr) (x1 : Addr) (x2 : Int32) (x3 : Int32) : entryFrame m #[(.ref x0), (.ref x1), (.int x2), (.int x3)] 4 = mkF m 0 #[vr x0, vr x1, vi x2, vi x3] [] := by first | (simp [entryFrame, mkF, argsToLocals, Value.category]; done) | rfl
def Qrm19 (Z : State) (a1 : Addr) (a2 : Addr) (p4 : Int32) (a9 : Addr) (k13 : ClassId) (p14 : Int32) (k15 : (Nat → Int32)) (k18 : ClassId) (h0 : Heap) (n0 : Nat) (v : Option Value) (h : Heap) (L : List Loc) : Prop := v = none ∧ Fr n0 L ∧ Keep h0 h [a2] ∧ Exa Z h a2 "[B" ∧ Arv Z h a2 k18 .byte (16 : Int32) (own_bs (own_cut p14 k15)) (.int 0)
set_option maxRecDepth 65536 in
set_option maxHeartbeats 40000000 in
theorem rm19 (l : Launch) (Z : State) (a0 : Array Value) (hw : ∀ d ∈ tables_1, d.before a0 Z = true) (ws : List Jvm.Cond) (a1 : Addr) (a2 : Addr) (p4 : Int32) (a9 : Addr) (k13 : ClassId) (p14 : Int32) (k15 : (Nat → Int32)) (k18 : ClassId) (h0 : Heap) (n0 : Nat) (O0 : Old Z n0 h0) (E_3 : Exa Z h0 a1 "java/lang/String") (S_5 : Sta Z Z.heap "java/lang/String" "COMPACT_STRINGS" "Z" (.int p4)) (hc6 : ¬ (p4 = (0 : Int32))) (F_7 : Fld Z h0 a1 "java/lang/String" "coder" "B" (.int 0)) (F_10 : Fld Z h0 a1 "java/lang/String" "value" "[B" (.ref a9)) (V_16 : Arv Z h0 a9 k13 .byte p14 (own_bs k15) (.int (0 : Int32))) (V_19 : Arv Z h0 a2 k18 .byte (16 : Int32) [] (.int 0)) (E_20 : Exa Z h0 a2 "[B") (g_a2 : n0 ≤ a2) (hc22 : ¬ (p14 < (0 : Int32))) (hc23 : p14 < (16 : Int32)) :
    MF l Z h0 (⟨"java/lang/String", "getBytes", "([BIB)V"⟩ : MethodName) jdk_42_method_147_code 4 none ws (⟨1, 0, 0, 18⟩ : Room) #[(.ref a1), (.ref a2), (.int 0), (.int 0)] (Qrm19 Z a1 a2 p4 a9 k13 p14 k15 k18 h0 n0) := by
  refine MetFree.of_bodySF (plainFor_of_name pn_0) hisR ?_
  intro p e s m args below meth c s₁ Bd hml0 hP hK
  obtain ⟨rfl, hZ, hh⟩ := hP
  have hx := Bd.exec
  have hby := Bd.bytes
  have hml : c.maxLocals = 4 := hml0
  have hown : s.vm.findClass "java/lang/String" = some m.cls := findClass_of_methodNamed Bd.named
  have X0 : Stand p l e (⟨1, 0, 0, 18⟩ : Room) s m #[(.ref a1), (.ref a2), (.int 0), (.int 0)] below meth c s₁ [] 0 0 := Stand.of_body Bd
  have e0 : s₁.heap = h0 := by rw [← hh, Bd.state]; rfl
  have N0 := Fr.nil n0
  have pre0 : ∀ t, Steps p.tables e below (s₁.setTop (mkF m 0 #[vr a1, vr a2, vi 0, vi 0] [])) t → Steps p.tables e below (s₁.setTop (entryFrame m #[(.ref a1), (.ref a2), (.int 0), (.int 0)] 4)) t := fun t k => castTop (ef_19_RRII m a1 a2 (0 : Int32) (0 : Int32)) k
  obtain ⟨_, T8, L8, X8, hQ8, st8⟩ := cV X0 hx hZ hown (W hw 84 rfl) (W hw 85 rfl) (notFace_of_selects (args := #[]) (mvT hZ (W hw 87 rfl))) (W hw 87 rfl) (W hw 86 rfl) (W hw 88 rfl) (W hw 2 rfl) (by decide) (rm15 l Z a0 hw [] a1 p4 h0 n0 O0 S_5 hc6 F_7) e0 E_3 #[vr a1, vr a2, vi 0, vi 0] [] (by rw [hml]; rfl) (hb hby d19_1) pd_10 rfl (W := 0) (Nat.le_of_eq rfl) (by decide) (by decide) (by decide) (by decide)
  obtain ⟨rfl, Nq8, e8⟩ := hQ8
  have N8 := Fr.app N0 Nq8
  obtain ⟨T11, X11, e11, st11⟩ := getF X8 hx hZ hown (host := "") (Or.inl (W hw 28 rfl)) Via.refl e8 F_10 (g := (mkF m 9 #[vr a1, vr a2, vi 0, vi 0] [(.ref a1)])) rfl rfl (hb hby d19_9)
  obtain ⟨T12, X12, e12, st12⟩ := getF X11 hx hZ hown (host := "") (Or.inl (W hw 28 rfl)) Via.refl e11 F_10 (g := (mkF m 18 #[vr a1, vr a2, vi 0, vi 0] [(.ref a1), (.int 0), (.ref a2), (.int 0), (.ref a9)])) rfl rfl (hb hby d19_18)
  obtain ⟨cl17, Ar17, q17, S17, M17, Hs17, G17⟩ := id V_16
  have V21 : Arv Z h0 a2 k18 .byte (16 : Int32) [(.int 0), (.int 0), (.int 0), (.int 0), (.int 0), (.int 0), (.int 0), (.int 0), (.int 0), (.int 0), (.int 0), (.int 0), (.int 0), (.int 0), (.int 0), (.int 0)] (.int 0) := V_19.pad (pad_rep [] (.int 0) 16)
  obtain ⟨T24, h24, L24, X24, e24, N24, K24, V24, st24⟩ := cpA X12 hx hZ hown (W hw 112 rfl) (W hw 115 rfl) (W hw 113 rfl) (W hw 114 rfl) e12 V_16 V21 (Or.inl ⟨rfl, rfl⟩) (by decide) (by decide) hc22 (own_ac2 hc22) (own_ac1 hc23) rfl (own_ac3 hc23) N8 g_a2 (g := (mkF m 22 #[vr a1, vr a2, vi 0, vi 0] [(.int p14), (.int 0), (.ref a2), (.int 0), (.ref a9)])) rfl (by rw [hml]; rfl) (rest := []) rfl (hb hby d19_22) (by decide) (W := 0) (by show 2 * 0 + _ ≤ _; exact Nat.le_of_eq rfl) (by decide)
  have KK24 : Keep h0 h24 [a2] := Keep.trans (h := h0) (Keep.refl h0 [a2]) K24 (allS (Or.inl (List.mem_of_getElem? (i := 0) rfl)) all0)
  have Vw24 : Arv Z h24 a2 k18 .byte (16 : Int32) (own_bs (own_cut p14 k15)) (.int 0) := own_copied2 V24 hc23 rfl
  have f25 := (E_20.keep K24)
  obtain ⟨fs, hr, hrun, hended, hW, hsame⟩ := X24.leave (v := none) (fun _ => rfl)
  refine ⟨_, _, pre0 _ ?_, hrun, hended, _, _, rfl, ?_, ⟨_, rfl⟩, hW, hsame.mono (by decide) (by decide)⟩
  · show Steps p.tables e below (s₁.setTop (mkF m 0 #[vr a1, vr a2, vi 0, vi 0] [])) _
    refine XS.aloadN X0.here hx rfl (hb hby d19_0) rfl rfl ?_
    refine st8 _ ?_
    refine XS.iloadN X8.here hx rfl (hb hby d19_4) rfl ?_
    refine XS.icmpNo X8.here hx rfl (hb hby d19_5) rfl (teq ((by decide) : (0 : Int32) = (0 : Int32))).2 ?_
    refine XS.aloadN X8.here hx rfl (hb hby d19_8) rfl rfl ?_
    refine st11 _ ?_
    refine XS.iconst X11.here hx rfl (hb hby d19_12) ?_
    refine XS.aloadN X11.here hx rfl (hb hby d19_13) rfl rfl ?_
    refine XS.iloadN X11.here hx rfl (hb hby d19_14) rfl ?_
    refine XS.iloadN X11.here hx rfl (hb hby d19_15) rfl ?_
    show Steps p.tables e below (T11.setTop (mkF m 16 #[vr a1, vr a2, vi 0, vi 0] [(.int 0), (.int 0), (.ref a2), (.int 0), (.ref a9)])) _
    refine XS.ishl X11.here hx rfl (hb hby d19_16) rfl ?_
    show Steps p.tables e below (T11.setTop (mkF m 17 #[vr a1, vr a2, vi 0, vi 0] [(.int ((0 : Int32) <<< ((0 : Int32) &&& 31))), (.ref a2), (.int 0), (.ref a9)])) _
    rw [show ((0 : Int32) <<< ((0 : Int32) &&& 31)) = (0 : Int32) from by decide]
    refine XS.aloadN X11.here hx rfl (hb hby d19_17) rfl rfl ?_
    refine st12 _ ?_
    refine X12.arraylength hx (by rw [e12]; exact Ar17.1) (State.isArrayOf_alike hZ.alike Ar17.2.1) (g := (mkF m 21 #[vr a1, vr a2, vi 0, vi 0] [(.ref a9), (.int 0), (.ref a2), (.int 0), (.ref a9)])) rfl rfl (hb hby d19_21) _ ?_
    rw [len_of S17 M17]
    refine st24 _ ?_
    refine XS.goto X24.here hx rfl (pc0 := 25) (pc' := 43) rfl (hb hby d19_25) (by decide) (by decide) ?_
    exact X24.returnOut hx Bd.returns (hb hby d19_43) hr
  · show Qrm19 Z a1 a2 p4 a9 k13 p14 k15 k18 h0 n0 _ T24.heap _
    rw [e24]
    exact ⟨rfl, N24, KK24, f25, Vw24⟩
theorem pd_13 : parseMethodDescriptor "([BIB)V" = some ⟨[(.array .byte), .int, .byte], none⟩ := by decide +kernel
theorem d17_18 : decode jdk_68_method_73_code 18 = .ok (.return_, 1) := by decide +kernel
theorem ef_17_RIR (m : MethodId) (x0 : Addr) (x1 : Int32) (x2 : Addr) : entryFrame m #[(.ref x0), (.int x1), (.ref x2)] 3 = mkF m 0 #[vr x0, vi x1, vr x2] [] := by first | (simp [entryFrame, mkF, argsToLocals, Value.category]; done) | rfl
def Qrm17 (Z : State) (a1 : Addr) (a2 : Addr) (p3 : Int32) (a11 : Addr) (a15 : Addr) (k17 : ClassId) (p18 : Int32) (k19 : (Nat → Int32)) (k21 : ClassId) (h0 : Heap) (n0 : Nat) (v : Option Value) (h : Heap) (L : List Loc) : Prop := v = none ∧ Fr n0 L ∧ Keep h0 h [a11] ∧ Exa Z h a11 "[B" ∧ Arv Z h a11 k21 .byte (16 : Int32) (own_bs (own_cut p18 k19)) (.int 0)
set_option maxRecDepth 65536 in
set_option maxHeartbeats 40000000 in
theorem rm17 (l : Launch) (Z : State) (a0 : Array Value) (hw : ∀ d ∈ tables_1, d.before a0 Z = true) (ws : List Jvm.Cond) (a1 : Addr) (a2 : Addr) (p3 : Int32) (a11 : Addr) (a15 : Addr) (k17 : ClassId) (p18 : Int32) (k19 : (Nat → Int32)) (k21 : ClassId) (h0 : Heap) (n0 : Nat) (O0 : Old Z n0 h0) (S_4 : Sta Z Z.heap "java/lang/String" "COMPACT_STRINGS" "Z" (.int p3)) (hc5 : ¬ (p3 = (0 : Int32))) (F_6 : Fld Z h0 a1 "java/lang/AbstractStringBuilder" "coder" "B" (.int 0)) (E_7 : Exa Z h0 a2 "java/lang/String") (F_8 : Fld Z h0 a2 "java/lang/String" "coder" "B" (.int 0)) (E_10 : Exa Z h0 a1 "java/lang/StringBuilder") (F_12 : Fld Z h0 a1 "java/lang/AbstractStringBuilder" "value" "[B" (.ref a11)) (F_16 : Fld Z h0 a2 "java/lang/String" "value" "[B" (.ref a15)) (V_20 : Arv Z h0 a15 k17 .byte p18 (own_bs k19) (.int (0 : Int32))) (V_22 : Arv Z h0 a11 k21 .byte (16 : Int32) [] (.int 0)) (E_23 : Exa Z h0 a11 "[B") (g_a11 : n0 ≤ a11) (hc24 : ¬ (p18 < (0 : Int32))) (hc25 : p18 < (16 : Int32)) :
    MF l Z h0 (⟨"java/lang/AbstractStringBuilder", "putStringAt", "(ILjava/lang/String;)V"⟩ : MethodName) jdk_68_method_73_code 3 none ws (⟨2, 0, 0, 33⟩ : Room) #[(.ref a1), (.int 0), (.ref a2)] (Qrm17 Z a1 a2 p3 a11 a15 k17 p18 k19 k21 h0 n0) := by
  refine MetFree.of_bodySF (plainFor_of_name pn_7) hisR ?_
  intro p e s m args below meth c s₁ Bd hml0 hP hK
  obtain ⟨rfl, hZ, hh⟩ := hP
  have hx := Bd.exec
  have hby := Bd.bytes
  have hml : c.maxLocals = 3 := hml0
  have hown : s.vm.findClass "java/lang/AbstractStringBuilder" = some m.cls := findClass_of_methodNamed Bd.named
  have X0 : Stand p l e (⟨2, 0, 0, 33⟩ : Room) s m #[(.ref a1), (.int 0), (.ref a2)] below meth c s₁ [] 0 0 := Stand.of_body Bd
  have e0 : s₁.heap = h0 := by rw [← hh, Bd.state]; rfl
  have N0 := Fr.nil n0
  have pre0 : ∀ t, Steps p.tables e below (s₁.setTop (mkF m 0 #[vr a1, vi 0, vr a2] [])) t → Steps p.tables e below (s₁.setTop (entryFrame m #[(.ref a1), (.int 0), (.ref a2)] 3)) t := fun t k => castTop (ef_17_RIR m a1 (0 : Int32) a2) k
  obtain ⟨cq9, q9, q9'⟩ := E_10.cell
  obtain ⟨_, _, ⟨T9, L9, k9, n9⟩, -, X9, ⟨Lc9, hQ9, l9, y9, z9⟩, st9⟩ := X0.privateBack hx (y := (⟨"java/lang/AbstractStringBuilder", "inflateIfNeededFor", "(Ljava/lang/String;)V"⟩ : MethodName)) hown (mvT hZ (W hw 101 rfl)) (mvT hZ (W hw 102 rfl)) (own_selP (mvT hZ (W hw 104 rfl)) (Cond.privateMethod_at (mvP hZ (W hw 103 rfl) (args := #[]))) (mvT hZ (W hw 102 rfl)) (by decide)) (Cond.privateMethod_at (mvP hZ (W hw 103 rfl) (args := #[]))) (mvT hZ (W hw 105 rfl)) (by decide) (backOf (W := 0) (rm18 l Z a0 hw [] a1 a2 p3 h0 n0 O0 S_4 hc5 F_6 E_7 F_8) hZ (W hw 105 rfl) (W hw 61 rfl) (by decide) (by decide)) (g := (mkF m 2 #[vr a1, vi 0, vr a2] [(.ref a2), (.ref a1)])) rfl (by rw [hml]; rfl) (Steps.refl _) (a := a1) (by rw [e0]; exact q9) q9' (argsL := [(.ref a2)]) (rest := []) (lenOf pd_12 rfl) rfl (by show 2 * 0 + _ ≤ _; exact Nat.le_of_eq rfl) (hb hby d17_2) (fun _ _ => ⟨rfl, e0, (by decide : 0 + 0 ≤ _), (by decide : 0 + 0 ≤ _)⟩)
  dsimp only [Pt.U, Pt.locs, Pt.cells, Pt.slots] at X9 l9 y9 z9 st9 hQ9
  subst l9 y9 z9
  obtain ⟨rfl, Nq9, e9⟩ := hQ9
  have N9 := Fr.app N0 Nq9
  obtain ⟨T13, X13, e13, st13⟩ := getF X9 hx hZ hown (host := "") (Or.inl (W hw 65 rfl)) Via.refl e9 F_12 (g := (mkF m 7 #[vr a1, vi 0, vr a2] [(.ref a1), (.ref a2)])) rfl rfl (hb hby d17_7)
  obtain ⟨T14, X14, e14, st14⟩ := getF X13 hx hZ hown (host := "") (Or.inl (W hw 67 rfl)) Via.refl e13 F_6 (g := (mkF m 12 #[vr a1, vi 0, vr a2] [(.ref a1), (.int 0), (.ref a11), (.ref a2)])) rfl rfl (hb hby d17_12)
  obtain ⟨_, T26, L26, X26, hQ26, st26⟩ := cV X14 hx hZ hown (W hw 107 rfl) (W hw 108 rfl) (notFace_of_selects (args := #[]) (mvT hZ (W hw 110 rfl))) (W hw 110 rfl) (W hw 109 rfl) (W hw 111 rfl) (W hw 2 rfl) (by decide) (rm19 l Z a0 hw [] a2 a11 p3 a15 k17 p18 k19 k21 h0 n0 O0 E_7 S_4 hc5 F_8 F_16 V_20 V_22 E_23 g_a11 hc24 hc25) e14 E_7 #[vr a1, vi 0, vr a2] [] (by rw [hml]; rfl) (hb hby d17_15) pd_13 rfl (W := 0) (Nat.le_of_eq rfl) (by decide) (by decide) (by decide) (by decide)
  obtain ⟨rfl, Nq26, K26, P26_0, P26_1⟩ := hQ26
  have N26 := Fr.app N9 Nq26
  have KK26 := Keep.trans (h := h0) (Keep.refl h0 [a11]) K26 (allS (Or.inl (List.mem_of_getElem? (i := 0) rfl)) all0)
  obtain ⟨fs, hr, hrun, hended, hW, hsame⟩ := X26.leave (v := none) (fun _ => rfl)
  refine ⟨_, _, pre0 _ ?_, hrun, hended, _, _, rfl, ?_, ⟨_, rfl⟩, hW, hsame.mono (by decide) (by decide)⟩
  · show Steps p.tables e below (s₁.setTop (mkF m 0 #[vr a1, vi 0, vr a2] [])) _
    refine XS.aloadN X0.here hx rfl (hb hby d17_0) rfl rfl ?_
    refine XS.aloadN X0.here hx rfl (hb hby d17_1) rfl rfl ?_
    refine st9.trans ?_
    refine XS.aloadN X9.here hx rfl (hb hby d17_5) rfl rfl ?_
    refine XS.aloadN X9.here hx rfl (hb hby d17_6) rfl rfl ?_
    refine st13 _ ?_
    refine XS.iloadN X13.here hx rfl (hb hby d17_10) rfl ?_
    refine XS.aloadN X13.here hx rfl (hb hby d17_11) rfl rfl ?_
    refine st14 _ ?_
    refine st26 _ ?_
    show Steps p.tables e below (T26.setTop (mkF m 18 #[vr a1, vi 0, vr a2] [])) _
    exact X26.returnOut hx Bd.returns (hb hby d17_18) hr
  · show Qrm17 Z a1 a2 p3 a11 a15 k17 p18 k19 k21 h0 n0 _ T26.heap _
    exact ⟨rfl, N26, KK26, P26_0, P26_1⟩
theorem pd_14 : parseMethodDescriptor "(ILjava/lang/String;)V" = some ⟨[.int, (.object "java/lang/String")], none⟩ := by decide +kernel
theorem d13_33 : decode jdk_68_method_22_code 33 = .ok (.aload_n 0, 1) := by decide +kernel
theorem d13_34 : decode jdk_68_method_22_code 34 = .ok (.dup, 1) := by decide +kernel
theorem d13_35 : decode jdk_68_method_22_code 35 = .ok (.getfield 79, 3) := by decide +kernel
theorem d13_38 : decode jdk_68_method_22_code 38 = .ok (.iload_n 2, 1) := by decide +kernel
theorem d13_39 : decode jdk_68_method_22_code 39 = .ok (.iadd, 1) := by decide +kernel
theorem d13_40 : decode jdk_68_method_22_code 40 = .ok (.putfield 79, 3) := by decide +kernel
theorem d13_43 : decode jdk_68_method_22_code 43 = .ok (.aload_n 0, 1) := by decide +kernel
theorem d13_44 : decode jdk_68_method_22_code 44 = .ok (.areturn, 1) := by decide +kernel
theorem ef_13_RR (m : MethodId) (x0 : Addr) (x1 : Addr) : entryFrame m #[(.ref x0), (.ref x1)] 3 = mkF m 0 #[vr x0, vr x1, .unset] [] := by first | (simp [entryFrame, mkF, argsToLocals, Value.category]; done) | rfl
def Qrm13 (Z : State) (a1 : Addr) (a2 : Addr) (a4 : Addr) (k6 : ClassId) (p7 : Int32) (k8 : (Nat → Int32)) (p10 : Int32) (a17 : Addr) (k19 : ClassId) (h0 : Heap) (n0 : Nat) (v : Option Value) (h : Heap) (L : List Loc) : Prop := v = some (.ref a1) ∧ Fr n0 L ∧ Keep h0 h [a17, a1] ∧ Fld Z h a1 "java/lang/AbstractStringBuilder" "count" "I" (.int p7) ∧ Fld Z h a1 "java/lang/AbstractStringBuilder" "value" "[B" (.ref a17) ∧ Fld Z h a1 "java/lang/AbstractStringBuilder" "coder" "B" (.int 0) ∧ Exa Z h a1 "java/lang/StringBuilder" ∧ Exa Z h a17 "[B" ∧ Arv Z h a17 k19 .byte (16 : Int32) (own_bs (own_cut p7 k8)) (.int 0)
set_option maxRecDepth 65536 in
set_option maxHeartbeats 40000000 in
theorem rm13 (l : Launch) (Z : State) (a0 : Array Value) (hw : ∀ d ∈ tables_1, d.before a0 Z = true) (ws : List Jvm.Cond) (a1 : Addr) (a2 : Addr) (a4 : Addr) (k6 : ClassId) (p7 : Int32) (k8 : (Nat → Int32)) (p10 : Int32) (a17 : Addr) (k19 : ClassId) (h0 : Heap) (n0 : Nat) (O0 : Old Z n0 h0) (E_3 : Exa Z h0 a2 "java/lang/String") (F_5 : Fld Z h0 a2 "java/lang/String" "value" "[B" (.ref a4)) (V_9 : Arv Z h0 a4 k6 .byte p7 (own_bs k8) (.int (0 : Int32))) (S_11 : Sta Z Z.heap "java/lang/String" "COMPACT_STRINGS" "Z" (.int p10)) (hc12 : ¬ (p10 = (0 : Int32))) (F_13 : Fld Z h0 a2 "java/lang/String" "coder" "B" (.int 0)) (F_15 : Fld Z h0 a1 "java/lang/AbstractStringBuilder" "count" "I" (.int 0)) (F_18 : Fld Z h0 a1 "java/lang/AbstractStringBuilder" "value" "[B" (.ref a17)) (V_20 : Arv Z h0 a17 k19 .byte (16 : Int32) [] (.int 0)) (F_21 : Fld Z h0 a1 "java/lang/AbstractStringBuilder" "coder" "B" (.int 0)) (hc22 : ¬ ((0 : Int32) < (p7 - (16 : Int32)))) (E_24 : Exa Z h0 a1 "java/lang/StringBuilder") (E_26 : Exa Z h0 a17 "[B") (g_a17 : n0 ≤ a17) (hc27 : ¬ (p7 < (0 : Int32))) (hc28 : p7 < (16 : Int32)) (ne_a1_a17 : a1 ≠ a17) (g_a1 : n0 ≤ a1) :
    MF l Z h0 (⟨"java/lang/AbstractStringBuilder", "append", "(Ljava/lang/String;)Ljava/lang/AbstractStringBuilder;"⟩ : MethodName) jdk_68_method_22_code 3 (some (.object "java/lang/AbstractStringBuilder")) ws (⟨3, 0, 0, 47⟩ : Room) #[(.ref a1), (.ref a2)] (Qrm13 Z a1 a2 a4 k6 p7 k8 p10 a17 k19 h0 n0) := by
  refine MetFree.of_bodySF (plainFor_of_name pn_7) hisR ?_
  intro p e s m args below meth c s₁ Bd hml0 hP hK
  obtain ⟨rfl, hZ, hh⟩ := hP
  have hx := Bd.exec
  have hby := Bd.bytes
  have hml : c.maxLocals = 3 := hml0
  have hown : s.vm.findClass "java/lang/AbstractStringBuilder" = some m.cls := findClass_of_methodNamed Bd.named
  have X0 : Stand p l e (⟨3, 0, 0, 47⟩ : Room) s m #[(.ref a1), (.ref a2)] below meth c s₁ [] 0 0 := Stand.of_body Bd
  have e0 : s₁.heap = h0 := by rw [← hh, Bd.state]; rfl
  have N0 := Fr.nil n0
  have pre0 : ∀ t, Steps p.tables e below (s₁.setTop (mkF m 0 #[vr a1, vr a2, .unset] [])) t → Steps p.tables e below (s₁.setTop (entryFrame m #[(.ref a1), (.ref a2)] 3)) t := fun t k => castTop (ef_13_RR m a1 a2) k
  obtain ⟨_, T14, L14, X14, hQ14, st14⟩ := cV X0 hx hZ hown (W hw 79 rfl) (W hw 80 rfl) (notFace_of_selects (args := #[]) (mvT hZ (W hw 82 rfl))) (W hw 82 rfl) (W hw 81 rfl) (W hw 83 rfl) (W hw 2 rfl) (by decide) (rm14 l Z a0 hw [] a2 a4 k6 p7 k8 p10 h0 n0 O0 F_5 V_9 E_3 S_11 hc12 F_13) e0 E_3 #[vr a1, vr a2, .unset] [] (by rw [hml]; rfl) (hb hby d13_10) pd_11 rfl (W := 0) (Nat.le_of_eq rfl) (by decide) (by decide) (by decide) (by decide)
  obtain ⟨rfl, Nq14, e14⟩ := hQ14
  have N14 := Fr.app N0 Nq14
  obtain ⟨T16, X16, e16, st16⟩ := getF X14 hx hZ hown (host := "") (Or.inl (W hw 89 rfl)) Via.refl e14 F_15 (g := (mkF m 16 #[vr a1, vr a2, vi p7] [(.ref a1), (.ref a1)])) rfl rfl (hb hby d13_16)
  obtain ⟨cq23, q23, q23'⟩ := E_24.cell
  obtain ⟨_, _, ⟨T23, L23, k23, n23⟩, -, X23, ⟨Lc23, hQ23, l23, y23, z23⟩, st23⟩ := X16.privateBack hx (y := (⟨"java/lang/AbstractStringBuilder", "ensureCapacityInternal", "(I)V"⟩ : MethodName)) hown (mvT hZ (W hw 91 rfl)) (mvT hZ (W hw 92 rfl)) (own_selP (mvT hZ (W hw 94 rfl)) (Cond.privateMethod_at (mvP hZ (W hw 93 rfl) (args := #[]))) (mvT hZ (W hw 92 rfl)) (by decide)) (Cond.privateMethod_at (mvP hZ (W hw 93 rfl) (args := #[]))) (mvT hZ (W hw 95 rfl)) (by decide) (backOf (W := 0) (rm16 l Z a0 hw [] a1 p7 a17 k19 h0 n0 O0 F_18 V_20 F_21 hc22) hZ (W hw 95 rfl) (W hw 61 rfl) (by decide) (by decide)) (g := (mkF m 21 #[vr a1, vr a2, vi p7] [(.int p7), (.ref a1)])) rfl (by rw [hml]; rfl) (Steps.refl _) (a := a1) (by rw [e16]; exact q23) q23' (argsL := [(.int p7)]) (rest := []) (lenOf pd_8 rfl) rfl (by show 2 * 0 + _ ≤ _; exact Nat.le_of_eq rfl) (hb hby d13_21) (fun _ _ => ⟨rfl, e16, (by decide : 0 + 0 ≤ _), (by decide : 0 + 0 ≤ _)⟩)
  dsimp only [Pt.U, Pt.locs, Pt.cells, Pt.slots] at X23 l23 y23 z23 st23 hQ23
  subst l23 y23 z23
  obtain ⟨rfl, Nq23, e23⟩ := hQ23
  have N23 := Fr.app N14 Nq23
  obtain ⟨T25, X25, e25, st25⟩ := getF X23 hx hZ hown (host := "") (Or.inl (W hw 89 rfl)) Via.refl e23 F_15 (g := (mkF m 26 #[vr a1, vr a2, vi p7] [(.ref a1), (.ref a1)])) rfl rfl (hb hby d13_26)
  obtain ⟨cq29, q29, q29'⟩ := E_24.cell
  obtain ⟨_, _, ⟨T29, L29, k29, n29⟩, -, X29, ⟨Lc29, hQ29, l29, y29, z29⟩, st29⟩ := X25.privateBack hx (y := (⟨"java/lang/AbstractStringBuilder", "putStringAt", "(ILjava/lang/String;)V"⟩ : MethodName)) hown (mvT hZ (W hw 96 rfl)) (mvT hZ (W hw 97 rfl)) (own_selP (mvT hZ (W hw 99 rfl)) (Cond.privateMethod_at (mvP hZ (W hw 98 rfl) (args := #[]))) (mvT hZ (W hw 97 rfl)) (by decide)) (Cond.privateMethod_at (mvP hZ (W hw 98 rfl) (args := #[]))) (mvT hZ (W hw 100 rfl)) (by decide) (backOf (W := 0) (rm17 l Z a0 hw [] a1 a2 p10 a17 a4 k6 p7 k8 k19 h0 n0 O0 S_11 hc12 F_21 E_3 F_13 E_24 F_18 F_5 V_9 V_20 E_26 g_a17 hc27 hc28) hZ (W hw 100 rfl) (W hw 61 rfl) (by decide) (by decide)) (g := (mkF m 30 #[vr a1, vr a2, vi p7] [(.ref a2), (.int 0), (.ref a1)])) rfl (by rw [hml]; rfl) (Steps.refl _) (a := a1) (by rw [e25]; exact q29) q29' (argsL := [(.int 0), (.ref a2)]) (rest := []) (lenOf pd_14 rfl) rfl (by show 2 * 0 + _ ≤ _; exact Nat.le_of_eq rfl) (hb hby d13_30) (fun _ _ => ⟨rfl, e25, (by decide : 0 + 0 ≤ _), (by decide : 0 + 0 ≤ _)⟩)
  dsimp only [Pt.U, Pt.locs, Pt.cells, Pt.slots] at X29 l29 y29 z29 st29 hQ29
  subst l29 y29 z29
  obtain ⟨rfl, Nq29, K29, P29_0, P29_1⟩ := hQ29
  have N29 := Fr.app N23 Nq29
  have KK29 := Keep.trans (h := h0) (Keep.refl h0 [a17, a1]) K29 (allS (Or.inl (List.mem_of_getElem? (i := 0) rfl)) all0)
  have f30 := (F_15.keep K29 (ninS ne_a1_a17 nin0))
  obtain ⟨T31, X31, e31, st31⟩ := getF X29 hx hZ hown (host := "") (Or.inl (W hw 89 rfl)) Via.refl rfl f30 (g := (mkF m 35 #[vr a1, vr a2, vi p7] [(.ref a1), (.ref a1)])) rfl rfl (hb hby d13_35)
  have f32 := (E_24.keep K29)
  obtain ⟨T33, h33, X33, e33, W33, st33⟩ := putF X31 hx hZ hown (host := "") (Or.inl (W hw 89 rfl)) Via.refl e31 f30 f32 (Or.inl (W hw 90 rfl)) (W hw 52 rfl) (ty := .int) (by decide) rfl rfl (g := (mkF m 40 #[vr a1, vr a2, vi p7] [(.int p7), (.ref a1)])) rfl rfl (hb hby d13_40)
  have K33 := KK29.wr W33 (Or.inl (List.mem_of_getElem? (i := 1) rfl))
  have N33 := Fr.snoc X33 N29 g_a1
  have Fw33 := f30.same W33
  have f34 := ((F_18.keep K29 (ninS ne_a1_a17 nin0)).other W33 (Or.inr (slot_ne (Or.inl (W hw 66 rfl)) (Or.inl (W hw 90 rfl)) (by decide) (t := (.array .byte)) (t' := .int) (by decide) (by decide))))
  have f35 := ((F_21.keep K29 (ninS ne_a1_a17 nin0)).other W33 (Or.inr (slot_ne (Or.inl (W hw 68 rfl)) (Or.inl (W hw 90 rfl)) (by decide) (t := .byte) (t' := .int) (by decide) (by decide))))
  have f36 := (f32.wr W33)
  have f37 := (P29_0.wr W33)
  have f38 := (P29_1.other W33 (Ne.symm ne_a1_a17))
  obtain ⟨fs, hr, hrun, hended, hW, hsame⟩ := X33.leave (v := some (.ref a1)) (fun h => by rw [Bd.returns] at h; cases h)
  refine ⟨_, _, pre0 _ ?_, hrun, hended, _, _, rfl, ?_, ⟨_, rfl⟩, hW, hsame.mono (by decide) (by decide)⟩
  · show Steps p.tables e below (s₁.setTop (mkF m 0 #[vr a1, vr a2, .unset] [])) _
    refine XS.aloadN X0.here hx rfl (hb hby d13_0) rfl rfl ?_
    refine XS.ifnonnullYes X0.here hx rfl (pc0 := 1) (pc' := 9) rfl (hb hby d13_1) rfl (by decide) (by decide) ?_
    refine XS.aloadN X0.here hx rfl (hb hby d13_9) rfl rfl ?_
    refine st14 _ ?_
    refine XS.istoreN X14.here hx rfl (hb hby d13_13) rfl (l' := #[vr a1, vr a2, vi p7]) rfl ?_
    refine XS.aloadN X14.here hx rfl (hb hby d13_14) rfl rfl ?_
    refine XS.aloadN X14.here hx rfl (hb hby d13_15) rfl rfl ?_
    refine st16 _ ?_
    refine XS.iloadN X16.here hx rfl (hb hby d13_19) rfl ?_
    refine XS.iadd X16.here hx rfl (hb hby d13_20) rfl ?_
    show Steps p.tables e below (T16.setTop (mkF m 21 #[vr a1, vr a2, vi p7] [(.int ((0 : Int32) + p7)), (.ref a1)])) _
    rw [show ((0 : Int32) + p7) = p7 from Int32.zero_add _]
    refine st23.trans ?_
    refine XS.aloadN X23.here hx rfl (hb hby d13_24) rfl rfl ?_
    refine XS.aloadN X23.here hx rfl (hb hby d13_25) rfl rfl ?_
    refine st25 _ ?_
    refine XS.aloadN X25.here hx rfl (hb hby d13_29) rfl rfl ?_
    refine st29.trans ?_
    refine XS.aloadN X29.here hx rfl (hb hby d13_33) rfl rfl ?_
    refine XS.dup X29.here hx rfl (hb hby d13_34) rfl rfl ?_
    refine st31 _ ?_
    show Steps p.tables e below (T31.setTop (mkF m 38 #[vr a1, vr a2, vi p7] [(.int 0), (.ref a1)])) _
    refine XS.iloadN X31.here hx rfl (hb hby d13_38) rfl ?_
    refine XS.iadd X31.here hx rfl (hb hby d13_39) rfl ?_
    show Steps p.tables e below (T31.setTop (mkF m 40 #[vr a1, vr a2, vi p7] [(.int ((0 : Int32) + p7)), (.ref a1)])) _
    rw [show ((0 : Int32) + p7) = p7 from Int32.zero_add _]
    refine st33 _ ?_
    refine XS.aloadN X33.here hx rfl (hb hby d13_43) rfl rfl ?_
    jvm_step X33.here [X33.here.top, hx, (hb hby d13_44), X33.method', Bd.returns, Value.isRef, FieldType.isReference]
    first | (intro acts; rw [hr _ acts rfl rfl rfl]) | rw [hr _ _ rfl rfl rfl]
    exact Steps.refl _
  · show Qrm13 Z a1 a2 a4 k6 p7 k8 p10 a17 k19 h0 n0 _ T33.heap _
    rw [e33]
    exact ⟨rfl, N33, K33, Fw33, f34, f35, f36, f37, f38⟩
theorem pd_15 : parseMethodDescriptor "(Ljava/lang/String;)Ljava/lang/AbstractStringBuilder;" = some ⟨[(.object "java/lang/String")], some (.object "java/lang/AbstractStringBuilder")⟩ := by decide +kernel
theorem d12_5 : decode jdk_67_method_7_code 5 = .ok (.pop, 1) := by decide +kernel
theorem d12_6 : decode jdk_67_method_7_code 6 = .ok (.aload_n 0, 1) := by decide +kernel
theorem d12_7 : decode jdk_67_method_7_code 7 = .ok (.areturn, 1) := by decide +kernel
theorem ef_12_RR (m : MethodId) (x0 : Addr) (x1 : Addr) : entryFrame m #[(.ref x0), (.ref x1)] 2 = mkF m 0 #[vr x0, vr x1] [] := by first | (simp [entryFrame, mkF, argsToLocals, Value.category]; done) | rfl
def Qrm12 (Z : State) (a1 : Addr) (a2 : Addr) (a4 : Addr) (k6 : ClassId) (p7 : Int32) (k8 : (Nat → Int32)) (p10 : Int32) (a15 : Addr) (k17 : ClassId) (h0 : Heap) (n0 : Nat) (v : Option Value) (h : Heap) (L : List Loc) : Prop := v = some (.ref a1) ∧ Fr n0 L ∧ Keep h0 h [a15, a1] ∧ Exa Z h a1 "java/lang/StringBuilder" ∧ Fld Z h a1 "java/lang/AbstractStringBuilder" "count" "I" (.int p7) ∧ Fld Z h a1 "java/lang/AbstractStringBuilder" "value" "[B" (.ref a15) ∧ Fld Z h a1 "java/lang/AbstractStringBuilder" "coder" "B" (.int 0) ∧ Exa Z h a15 "[B" ∧ Arv Z h a15 k17 .byte (16 : Int32) (own_bs (own_cut p7 k8)) (.int 0)
set_option maxRecDepth 65536 in
set_option maxHeartbeats 40000000 in
theorem rm12 (l : Launch) (Z : State) (a0 : Array Value) (hw : ∀ d ∈ tables_1, d.before a0 Z = true) (ws : List Jvm.Cond) (a1 : Addr) (a2 : Addr) (a4 : Addr) (k6 : ClassId) (p7 : Int32) (k8 : (Nat → Int32)) (p10 : Int32) (a15 : Addr) (k17 : ClassId) (h0 : Heap) (n0 : Nat) (O0 : Old Z n0 h0) (E_3 : Exa Z h0 a2 "java/lang/String") (F_5 : Fld Z h0 a2 "java/lang/String" "value" "[B" (.ref a4)) (V_9 : Arv Z h0 a4 k6 .byte p7 (own_bs k8) (.int (0 : Int32))) (S_11 : Sta Z Z.heap "java/lang/String" "COMPACT_STRINGS" "Z" (.int p10)) (hc12 : ¬ (p10 = (0 : Int32))) (F_13 : Fld Z h0 a2 "java/lang/String" "coder" "B" (.int 0)) (F_14 : Fld Z h0 a1 "java/lang/AbstractStringBuilder" "count" "I" (.int 0)) (F_16 : Fld Z h0 a1 "java/lang/AbstractStringBuilder" "value" "[B" (.ref a15)) (V_18 : Arv Z h0 a15 k17 .byte (16 : Int32) [] (.int 0)) (F_19 : Fld Z h0 a1 "java/lang/AbstractStringBuilder" "coder" "B" (.int 0)) (hc20 : ¬ ((0 : Int32) < (p7 - (16 : Int32)))) (E_21 : Exa Z h0 a1 "java/lang/StringBuilder") (E_22 : Exa Z h0 a15 "[B") (g_a15 : n0 ≤ a15) (hc23 : ¬ (p7 < (0 : Int32))) (hc24 : p7 < (16 : Int32)) (ne_a1_a15 : a1 ≠ a15) (g_a1 : n0 ≤ a1) :
    MF l Z h0 (⟨"java/lang/StringBuilder", "append", "(Ljava/lang/String;)Ljava/lang/StringBuilder;"⟩ : MethodName) jdk_67_method_7_code 2 (some (.object "java/lang/StringBuilder")) ws (⟨4, 0, 0, 61⟩ : Room) #[(.ref a1), (.ref a2)] (Qrm12 Z a1 a2 a4 k6 p7 k8 p10 a15 k17 h0 n0) := by
  refine MetFree.of_bodySF (plainFor_of_name pn_9) hisR ?_
  intro p e s m args below meth c s₁ Bd hml0 hP hK
  obtain ⟨rfl, hZ, hh⟩ := hP
  have hx := Bd.exec
  have hby := Bd.bytes
  have hml : c.maxLocals = 2 := hml0
  have hown : s.vm.findClass "java/lang/StringBuilder" = some m.cls := findClass_of_methodNamed Bd.named
  have X0 : Stand p l e (⟨4, 0, 0, 61⟩ : Room) s m #[(.ref a1), (.ref a2)] below meth c s₁ [] 0 0 := Stand.of_body Bd
  have e0 : s₁.heap = h0 := by rw [← hh, Bd.state]; rfl
  have N0 := Fr.nil n0
  have pre0 : ∀ t, Steps p.tables e below (s₁.setTop (mkF m 0 #[vr a1, vr a2] [])) t → Steps p.tables e below (s₁.setTop (entryFrame m #[(.ref a1), (.ref a2)] 2)) t := fun t k => castTop (ef_12_RR m a1 a2) k
  obtain ⟨_, _, ⟨T25, L25, k25, n25⟩, -, X25, ⟨Lc25, hQ25, l25, y25, z25⟩, st25⟩ := superBack X0 hx hZ (y := (⟨"java/lang/AbstractStringBuilder", "append", "(Ljava/lang/String;)Ljava/lang/AbstractStringBuilder;"⟩ : MethodName)) hown (W hw 74 rfl) (own_same (y := (⟨"java/lang/AbstractStringBuilder", "append", "(Ljava/lang/String;)Ljava/lang/AbstractStringBuilder;"⟩ : MethodName)) (z := (⟨"java/lang/AbstractStringBuilder", "ensureCapacityInternal", "(I)V"⟩ : MethodName)) (W hw 75 rfl) (W hw 94 rfl) rfl (by decide)) (W hw 75 rfl) (W hw 76 rfl) (by decide) (backOf (W := 0) (rm13 l Z a0 hw [] a1 a2 a4 k6 p7 k8 p10 a15 k17 h0 n0 O0 E_3 F_5 V_9 S_11 hc12 F_13 F_14 F_16 V_18 F_19 hc20 E_21 E_22 g_a15 hc23 hc24 ne_a1_a15 g_a1) hZ (W hw 78 rfl) (W hw 61 rfl) (by decide) (by decide)) e0 (Ins.self E_21) (g := (mkF m 2 #[vr a1, vr a2] [(.ref a2), (.ref a1)])) rfl (by rw [hml]; rfl) (W hw 78 rfl) (argsL := [(.ref a2)]) (rest := []) (lenOf pd_15 rfl) rfl (by show 2 * 0 + _ ≤ _; exact Nat.le_of_eq rfl) (hb hby d12_2) (fun _ _ => ⟨rfl, e0, (by decide : 0 + 0 ≤ _), (by decide : 0 + 0 ≤ _)⟩)
  dsimp only [Pt.U, Pt.locs, Pt.cells, Pt.slots] at X25 l25 y25 z25 st25 hQ25
  subst l25 y25 z25
  obtain ⟨rfl, Nq25, K25, P25_0, P25_1, P25_2, P25_3, P25_4, P25_5⟩ := hQ25
  have N25 := Fr.app N0 Nq25
  have KK25 := Keep.trans (h := h0) (Keep.refl h0 [a15, a1]) K25 (allS (Or.inl (List.mem_of_getElem? (i := 0) rfl)) (allS (Or.inl (List.mem_of_getElem? (i := 1) rfl)) all0))
  obtain ⟨fs, hr, hrun, hended, hW, hsame⟩ := X25.leave (v := some (.ref a1)) (fun h => by rw [Bd.returns] at h; cases h)
  refine ⟨_, _, pre0 _ ?_, hrun, hended, _, _, rfl, ?_, ⟨_, rfl⟩, hW, hsame.mono (by decide) (by decide)⟩
  · show Steps p.tables e below (s₁.setTop (mkF m 0 #[vr a1, vr a2] [])) _
    refine XS.aloadN X0.here hx rfl (hb hby d12_0) rfl rfl ?_
    refine XS.aloadN X0.here hx rfl (hb hby d12_1) rfl rfl ?_
    refine st25.trans ?_
    refine XS.pop X25.here hx rfl (hb hby d12_5) rfl rfl ?_
    refine XS.aloadN X25.here hx rfl (hb hby d12_6) rfl rfl ?_
    jvm_step X25.here [X25.here.top, hx, (hb hby d12_7), X25.method', Bd.returns, Value.isRef, FieldType.isReference]
    first | (intro acts; rw [hr _ acts rfl rfl rfl]) | rw [hr _ _ rfl rfl rfl]
    exact Steps.refl _
  · show Qrm12 Z a1 a2 a4 k6 p7 k8 p10 a15 k17 h0 n0 _ T25.heap _
    exact ⟨rfl, N25, KK25, P25_3, P25_0, P25_1, P25_2, P25_4, P25_5⟩
theorem pd_16 : parseMethodDescriptor "(Ljava/lang/String;)Ljava/lang/StringBuilder;" = some ⟨[(.object "java/lang/String")], some (.object "java/lang/StringBuilder")⟩ := by decide +kernel
theorem d9_14 : decode prog_10_method_2_code 14 = .ok (.aload_n 0, 1) := by decide +kernel
theorem d9_15 : decode prog_10_method_2_code 15 = .ok (.getfield 13, 3) := by decide +kernel
theorem d9_18 : decode prog_10_method_2_code 18 = .ok (.invokevirtual 24, 3) := by decide +kernel
theorem d20_0 : decode jdk_67_method_15_code 0 = .ok (.aload_n 0, 1) := by decide +kernel
theorem d20_1 : decode jdk_67_method_15_code 1 = .ok (.iload_n 1, 1) := by decide +kernel
theorem d20_2 : decode jdk_67_method_15_code 2 = .ok (.invokespecial 53, 3) := by decide +kernel
theorem d21_0 : decode jdk_68_method_32_code 0 = .ok (.aload_n 0, 1) := by decide +kernel
theorem d21_1 : decode jdk_68_method_32_code 1 = .ok (.getfield 79, 3) := by decide +kernel
theorem d21_4 : decode jdk_68_method_32_code 4 = .ok (.istore_n 2, 1) := by decide +kernel
theorem d21_5 : decode jdk_68_method_32_code 5 = .ok (.iload_n 2, 1) := by decide +kernel
theorem d21_6 : decode jdk_68_method_32_code 6 = .ok (.iload_n 1, 1) := by decide +kernel
theorem d21_7 : decode jdk_68_method_32_code 7 = .ok (.invokestatic 245, 3) := by decide +kernel
theorem pd_17 : parseMethodDescriptor "(I)I" = some ⟨[.int], some .int⟩ := by decide +kernel
theorem d21_10 : decode jdk_68_method_32_code 10 = .ok (.iadd, 1) := by decide +kernel
theorem d21_11 : decode jdk_68_method_32_code 11 = .ok (.istore_n 3, 1) := by decide +kernel
theorem d21_12 : decode jdk_68_method_32_code 12 = .ok (.aload_n 0, 1) := by decide +kernel
theorem d21_13 : decode jdk_68_method_32_code 13 = .ok (.iload_n 3, 1) := by decide +kernel
theorem d21_14 : decode jdk_68_method_32_code 14 = .ok (.invokevirtual 100, 3) := by decide +kernel
def Qrm16_1 (Z : State) (a1 : Addr) (p2 : Int32) (a3 : Addr) (k6 : ClassId) (k7 : (Nat → Int32)) (h0 : Heap) (n0 : Nat) (v : Option Value) (h : Heap) (L : List Loc) : Prop := v = none ∧ Fr n0 L ∧ h = h0
set_option maxRecDepth 65536 in
set_option maxHeartbeats 40000000 in
theorem rm16_1 (l : Launch) (Z : State) (a0 : Array Value) (hw : ∀ d ∈ tables_1, d.before a0 Z = true) (ws : List Jvm.Cond) (a1 : Addr) (p2 : Int32) (a3 : Addr) (k6 : ClassId) (k7 : (Nat → Int32)) (h0 : Heap) (n0 : Nat) (O0 : Old Z n0 h0) (F_4 : Fld Z h0 a1 "java/lang/AbstractStringBuilder" "value" "[B" (.ref a3)) (V_8 : Arv Z h0 a3 k6 .byte (16 : Int32) (own_bs k7) (.int 0)) (F_10 : Fld Z h0 a1 "java/lang/AbstractStringBuilder" "coder" "B" (.int 0)) (hc12 : ¬ ((0 : Int32) < (p2 - (16 : Int32)))) :
    MF l Z h0 (⟨"java/lang/AbstractStringBuilder", "ensureCapacityInternal", "(I)V"⟩ : MethodName) jdk_68_method_9_code 3 none ws (⟨0, 0, 0, 0⟩ : Room) #[(.ref a1), (.int p2)] (Qrm16_1 Z a1 p2 a3 k6 k7 h0 n0) := by
  refine MetFree.of_bodySF (plainFor_of_name pn_7) hisR ?_
  intro p e s m args below meth c s₁ Bd hml0 hP hK
  obtain ⟨rfl, hZ, hh⟩ := hP
  have hx := Bd.exec
  have hby := Bd.bytes
  have hown : s.vm.findClass "java/lang/AbstractStringBuilder" = some m.cls := findClass_of_methodNamed Bd.named
  have X0 : Stand p l e (⟨0, 0, 0, 0⟩ : Room) s m #[(.ref a1), (.int p2)] below meth c s₁ [] 0 0 := Stand.of_body Bd
  have e0 : s₁.heap = h0 := by rw [← hh, Bd.state]; rfl
  have N0 := Fr.nil n0
  have pre0 : ∀ t, Steps p.tables e below (s₁.setTop (mkF m 0 #[vr a1, vi p2, .unset] [])) t → Steps p.tables e below (s₁.setTop (entryFrame m #[(.ref a1), (.int p2)] 3)) t := fun t k => castTop (ef_16_RI m a1 p2) k
  obtain ⟨T5, X5, e5, st5⟩ := getF X0 hx hZ hown (host := "") (Or.inl (W hw 65 rfl)) Via.refl e0 F_4 (g := (mkF m 1 #[vr a1, vi p2, .unset] [(.ref a1)])) rfl rfl (hb hby d16_1)
  obtain ⟨cl9, Ar9, q9, S9, M9, Hs9, G9⟩ := id V_8
  obtain ⟨T11, X11, e11, st11⟩ := getF X5 hx hZ hown (host := "") (Or.inl (W hw 67 rfl)) Via.refl e5 F_10 (g := (mkF m 6 #[vr a1, vi p2, .unset] [(.ref a1), (.int 16)])) rfl rfl (hb hby d16_6)
  obtain ⟨fs, hr, hrun, hended, hW, hsame⟩ := X11.leave (v := none) (fun _ => rfl)
  refine ⟨_, _, pre0 _ ?_, hrun, hended, _, _, rfl, ?_, ⟨_, rfl⟩, hW, hsame.mono (by decide) (by decide)⟩
  · show Steps p.tables e below (s₁.setTop (mkF m 0 #[vr a1, vi p2, .unset] [])) _
    refine XS.aloadN X0.here hx rfl (hb hby d16_0) rfl rfl ?_
    refine st5 _ ?_
    refine X5.arraylength hx (by rw [e5]; exact Ar9.1) (State.isArrayOf_alike hZ.alike Ar9.2.1) (g := (mkF m 4 #[vr a1, vi p2, .unset] [(.ref a3)])) rfl rfl (hb hby d16_4) _ ?_
    rw [len_of S9 M9]
    refine XS.aloadN X5.here hx rfl (hb hby d16_5) rfl rfl ?_
    refine st11 _ ?_
    refine XS.ishr X11.here hx rfl (hb hby d16_9) rfl ?_
    show Steps p.tables e below (T11.setTop (mkF m 10 #[vr a1, vi p2, .unset] [(.int ((16 : Int32) >>> ((0 : Int32) &&& 31)))])) _
    rw [show ((16 : Int32) >>> ((0 : Int32) &&& 31)) = (16 : Int32) from by decide]
    refine XS.istoreN X11.here hx rfl (hb hby d16_10) rfl (l' := #[vr a1, vi p2, vi 16]) rfl ?_
    refine XS.iloadN X11.here hx rfl (hb hby d16_11) rfl ?_
    refine XS.iloadN X11.here hx rfl (hb hby d16_12) rfl ?_
    refine XS.isub X11.here hx rfl (hb hby d16_13) rfl ?_
    refine XS.ifYes X11.here hx rfl (pc0 := 14) (pc' := 38) rfl (hb hby d16_14) rfl ((if0 _ _).trans (flt (hc12 : ¬ ((0 : Int32) < (p2 - (16 : Int32))))).2.2.2) (by decide) (by decide) ?_
    exact X11.returnOut hx Bd.returns (hb hby d16_38) hr
  · show Qrm16_1 Z a1 p2 a3 k6 k7 h0 n0 _ T11.heap _
    rw [e11]
    exact ⟨rfl, N0, rfl⟩
theorem d21_17 : decode jdk_68_method_32_code 17 = .ok (.aload_n 0, 1) := by decide +kernel
theorem d21_18 : decode jdk_68_method_32_code 18 = .ok (.invokevirtual 83, 3) := by decide +kernel
theorem d23_0 : decode jdk_68_method_68_code 0 = .ok (.getstatic 18, 3) := by decide +kernel
theorem d23_3 : decode jdk_68_method_68_code 3 = .ok (.ifCond .eq 14, 3) := by decide +kernel
theorem d23_6 : decode jdk_68_method_68_code 6 = .ok (.aload_n 0, 1) := by decide +kernel
theorem d23_7 : decode jdk_68_method_68_code 7 = .ok (.getfield 22, 3) := by decide +kernel
theorem d23_10 : decode jdk_68_method_68_code 10 = .ok (.ifCond .ne 7, 3) := by decide +kernel
theorem d23_13 : decode jdk_68_method_68_code 13 = .ok (.iconst 1, 1) := by decide +kernel
theorem d23_14 : decode jdk_68_method_68_code 14 = .ok (.goto 4, 3) := by decide +kernel
theorem d23_18 : decode jdk_68_method_68_code 18 = .ok (.ireturn, 1) := by decide +kernel
theorem ef_23_R (m : MethodId) (x0 : Addr) : entryFrame m #[(.ref x0)] 1 = mkF m 0 #[vr x0] [] := by first | (simp [entryFrame, mkF, argsToLocals, Value.category]; done) | rfl
def Qrm23 (Z : State) (a1 : Addr) (p2 : Int32) (h0 : Heap) (n0 : Nat) (v : Option Value) (h : Heap) (L : List Loc) : Prop := v = some (.int 1) ∧ Fr n0 L ∧ h = h0
set_option maxRecDepth 65536 in
set_option maxHeartbeats 40000000 in
theorem rm23 (l : Launch) (Z : State) (a0 : Array Value) (hw : ∀ d ∈ tables_1, d.before a0 Z = true) (ws : List Jvm.Cond) (a1 : Addr) (p2 : Int32) (h0 : Heap) (n0 : Nat) (O0 : Old Z n0 h0) (S_3 : Sta Z Z.heap "java/lang/String" "COMPACT_STRINGS" "Z" (.int p2)) (hc5 : ¬ (p2 = (0 : Int32))) (F_6 : Fld Z h0 a1 "java/lang/AbstractStringBuilder" "coder" "B" (.int 0)) :
    MF l Z h0 (⟨"java/lang/AbstractStringBuilder", "isLatin1", "()Z"⟩ : MethodName) jdk_68_method_68_code 1 (some .boolean) ws (⟨0, 0, 0, 0⟩ : Room) #[(.ref a1)] (Qrm23 Z a1 p2 h0 n0) := by
  refine MetFree.of_bodySF (plainFor_of_name pn_7) hisR ?_
  intro p e s m args below meth c s₁ Bd hml0 hP hK
  obtain ⟨rfl, hZ, hh⟩ := hP
  have hx := Bd.exec
  have hby := Bd.bytes
  have hown : s.vm.findClass "java/lang/AbstractStringBuilder" = some m.cls := findClass_of_methodNamed Bd.named
  have X0 : Stand p l e (⟨0, 0, 0, 0⟩ : Room) s m #[(.ref a1)] below meth c s₁ [] 0 0 := Stand.of_body Bd
  have e0 : s₁.heap = h0 := by rw [← hh, Bd.state]; rfl
  have N0 := Fr.nil n0
  have pre0 : ∀ t, Steps p.tables e below (s₁.setTop (mkF m 0 #[vr a1] [])) t → Steps p.tables e below (s₁.setTop (entryFrame m #[(.ref a1)] 1)) t := fun t k => castTop (ef_23_R m a1) k
  obtain ⟨T4, X4, e4, st4⟩ := getS2 X0 hx hZ hown (host := "") (Or.inl (W hw 64 rfl)) Via.refl e0 (S_3.ext O0.2) (g := (mkF m 0 #[vr a1] [])) rfl (hb hby d23_0)
  obtain ⟨T7, X7, e7, st7⟩ := getF X4 hx hZ hown (host := "") (Or.inl (W hw 67 rfl)) Via.refl e4 F_6 (g := (mkF m 7 #[vr a1] [(.ref a1)])) rfl rfl (hb hby d23_7)
  obtain ⟨fs, hr, hrun, hended, hW, hsame⟩ := X7.leave (v := some (.int 1)) (fun h => by rw [Bd.returns] at h; cases h)
  refine ⟨_, _, pre0 _ ?_, hrun, hended, _, _, rfl, ?_, ⟨_, rfl⟩, hW, hsame.mono (by decide) (by decide)⟩
  · show Steps p.tables e below (s₁.setTop (mkF m 0 #[vr a1] [])) _
    refine st4 _ ?_
    refine XS.ifNo X4.here hx rfl (hb hby d23_3) rfl ((if0 _ _).trans (feq (hc5 : ¬ (p2 = (0 : Int32)))).1) ?_
    refine XS.aloadN X4.here hx rfl (hb hby d23_6) rfl rfl ?_
    refine st7 _ ?_
    refine XS.ifNo X7.here hx rfl (hb hby d23_10) rfl ((if0 _ _).trans (teq ((by decide) : (0 : Int32) = (0 : Int32))).2) ?_
    refine XS.iconst X7.here hx rfl (hb hby d23_13) ?_
    refine XS.goto X7.here hx rfl (pc0 := 14) (pc' := 18) rfl (hb hby d23_14) (by decide) (by decide) ?_
    exact retN X7 hx (t := .boolean) Bd.returns (by simp) (hb hby d23_18) hr
  · show Qrm23 Z a1 p2 h0 n0 _ T7.heap _
    rw [e7]
    exact ⟨rfl, N0, rfl⟩
theorem pd_18 : parseMethodDescriptor "()Z" = some ⟨[], some .boolean⟩ := by decide +kernel
theorem d21_21 : decode jdk_68_method_32_code 21 = .ok (.ifCond .eq 16, 3) := by decide +kernel
theorem d21_24 : decode jdk_68_method_32_code 24 = .ok (.iload_n 1, 1) := by decide +kernel
theorem d21_25 : decode jdk_68_method_32_code 25 = .ok (.iload_n 3, 1) := by decide +kernel
theorem d21_26 : decode jdk_68_method_32_code 26 = .ok (.aload_n 0, 1) := by decide +kernel
theorem d21_27 : decode jdk_68_method_32_code 27 = .ok (.getfield 15, 3) := by decide +kernel
theorem d21_30 : decode jdk_68_method_32_code 30 = .ok (.invokestatic 248, 3) := by decide +kernel
theorem pd_19 : parseMethodDescriptor "(II[B)I" = some ⟨[.int, .int, (.array .byte)], some .int⟩ := by decide +kernel
theorem d21_33 : decode jdk_68_method_32_code 33 = .ok (.pop, 1) := by decide +kernel
theorem d21_34 : decode jdk_68_method_32_code 34 = .ok (.goto 14, 3) := by decide +kernel
theorem d21_48 : decode jdk_68_method_32_code 48 = .ok (.aload_n 0, 1) := by decide +kernel
theorem d21_49 : decode jdk_68_method_32_code 49 = .ok (.iload_n 3, 1) := by decide +kernel
theorem d21_50 : decode jdk_68_method_32_code 50 = .ok (.putfield 79, 3) := by decide +kernel
theorem d21_53 : decode jdk_68_method_32_code 53 = .ok (.aload_n 0, 1) := by decide +kernel
theorem d21_54 : decode jdk_68_method_32_code 54 = .ok (.areturn, 1) := by decide +kernel
theorem ef_21_RI (m : MethodId) (x0 : Addr) (x1 : Int32) : entryFrame m #[(.ref x0), (.int x1)] 4 = mkF m 0 #[vr x0, vi x1, .unset, .unset] [] := by first | (simp [entryFrame, mkF, argsToLocals, Value.category]; done) | rfl
def Qrm21 (Z : State) (a1 : Addr) (p2 : Int32) (p3 : Int32) (a7 : Addr) (k9 : ClassId) (k10 : (Nat → Int32)) (p16 : Int32) (h0 : Heap) (n0 : Nat) (v : Option Value) (h : Heap) (L : List Loc) : Prop := v = some (.ref a1) ∧ Fr n0 L ∧ Keep h0 h [a7, a1] ∧ Fld Z h a1 "java/lang/AbstractStringBuilder" "count" "I" (.int (p3 + (own_ss p2))) ∧ Fld Z h a1 "java/lang/AbstractStringBuilder" "value" "[B" (.ref a7) ∧ Fld Z h a1 "java/lang/AbstractStringBuilder" "coder" "B" (.int 0) ∧ Exa Z h a1 "java/lang/StringBuilder" ∧ Exa Z h a7 "[B" ∧ Arv Z h a7 k9 .byte (16 : Int32) (own_bs (own_gc p2 (p3 + (own_ss p2)) k10)) (.int (0 : Int32))
set_option maxRecDepth 65536 in
set_option maxHeartbeats 40000000 in
theorem rm21 (l : Launch) (Z : State) (a0 : Array Value) (hw : ∀ d ∈ tables_1, d.before a0 Z = true) (ws : List Jvm.Cond) (a1 : Addr) (p2 : Int32) (p3 : Int32) (a7 : Addr) (k9 : ClassId) (k10 : (Nat → Int32)) (p16 : Int32) (h0 : Heap) (n0 : Nat) (O0 : Old Z n0 h0) (F_4 : Fld Z h0 a1 "java/lang/AbstractStringBuilder" "count" "I" (.int p3)) (F_8 : Fld Z h0 a1 "java/lang/AbstractStringBuilder" "value" "[B" (.ref a7)) (V_11 : Arv Z h0 a7 k9 .byte (16 : Int32) (own_bs k10) (.int 0)) (F_12 : Fld Z h0 a1 "java/lang/AbstractStringBuilder" "coder" "B" (.int 0)) (hc13 : ¬ ((0 : Int32) < ((p3 + (own_ss p2)) - (16 : Int32)))) (E_15 : Exa Z h0 a1 "java/lang/StringBuilder") (S_17 : Sta Z Z.heap "java/lang/String" "COMPACT_STRINGS" "Z" (.int p16)) (hc18 : ¬ (p16 = (0 : Int32))) (g_a7 : n0 ≤ a7) (T_21 : own_Tab Z) (hc22 : ¬ ((p3 + (own_ss p2)) < (own_ss p2))) (hc23 : ¬ ((16 : Int32) < (p3 + (own_ss p2)))) (E_25 : Exa Z h0 a7 "[B") (ne_a1_a7 : a1 ≠ a7) (g_a1 : n0 ≤ a1) :
    MF l Z h0 (⟨"java/lang/AbstractStringBuilder", "append", "(I)Ljava/lang/AbstractStringBuilder;"⟩ : MethodName) jdk_68_method_32_code 4 (some (.object "java/lang/AbstractStringBuilder")) ws (⟨2, 0, 0, 78⟩ : Room) #[(.ref a1), (.int p2)] (Qrm21 Z a1 p2 p3 a7 k9 k10 p16 h0 n0) := by
  refine MetFree.of_bodySF (plainFor_of_name pn_7) hisR ?_
  intro p e s m args below meth c s₁ Bd hml0 hP hK
  obtain ⟨rfl, hZ, hh⟩ := hP
  have hx := Bd.exec
  have hby := Bd.bytes
  have hml : c.maxLocals = 4 := hml0
  have hown : s.vm.findClass "java/lang/AbstractStringBuilder" = some m.cls := findClass_of_methodNamed Bd.named
  have X0 : Stand p l e (⟨2, 0, 0, 78⟩ : Room) s m #[(.ref a1), (.int p2)] below meth c s₁ [] 0 0 := Stand.of_body Bd
  have e0 : s₁.heap = h0 := by rw [← hh, Bd.state]; rfl
  have N0 := Fr.nil n0
  have pre0 : ∀ t, Steps p.tables e below (s₁.setTop (mkF m 0 #[vr a1, vi p2, .unset, .unset] [])) t → Steps p.tables e below (s₁.setTop (entryFrame m #[(.ref a1), (.int p2)] 4)) t := fun t k => castTop (ef_21_RI m a1 p2) k
  obtain ⟨T5, X5, e5, st5⟩ := getF X0 hx hZ hown (host := "") (Or.inl (W hw 89 rfl)) Via.refl e0 F_4 (g := (mkF m 1 #[vr a1, vi p2, .unset, .unset] [(.ref a1)])) rfl rfl (hb hby d21_1)
  obtain ⟨_, _, ⟨T6, L6, k6, n6⟩, -, X6, ⟨Lc6, hQ6, l6, y6, z6⟩, st6⟩ := Jvm.LawKit.callS X5 hx (y := (⟨"java/lang/Integer", "stringSize", "(I)I"⟩ : MethodName)) hown (mvT hZ (W hw 125 rfl)) (mvT hZ (W hw 126 rfl)) (mvT hZ (W hw 127 rfl)) (mvT hZ (W hw 128 rfl)) (by decide) (own_ssBack (W := 1) hZ (W hw 128 rfl) (W hw 127 rfl) p2 h0 n0 (by decide) (by decide)) (g := (mkF m 7 #[vr a1, vi p2, vi p3, .unset] [(.int p2), (.int p3)])) rfl (by rw [hml]; rfl) (argsL := [(.int p2)]) (rest := [(.int p3)]) (lenOf pd_17 rfl) rfl (by show 2 * 0 + _ ≤ _; exact Nat.le_of_eq rfl) (hb hby d21_7) (fun _ _ => ⟨rfl, e5, (by decide : 0 + 0 ≤ _), (by decide : 0 + 0 ≤ _)⟩)
  dsimp only [Pt.U, Pt.locs, Pt.cells, Pt.slots] at X6 l6 y6 z6 st6 hQ6
  subst l6 y6 z6
  obtain ⟨rfl, Nq6, e6⟩ := hQ6
  have N6 := Fr.app N0 Nq6
  obtain ⟨cq14, q14, q14'⟩ := E_15.cell
  obtain ⟨_, _, ⟨T14, L14, k14, n14⟩, -, X14, ⟨Lc14, hQ14, l14, y14, z14⟩, st14⟩ := X6.privateBack hx (y := (⟨"java/lang/AbstractStringBuilder", "ensureCapacityInternal", "(I)V"⟩ : MethodName)) hown (mvT hZ (W hw 91 rfl)) (mvT hZ (W hw 92 rfl)) (own_selP (mvT hZ (W hw 94 rfl)) (Cond.privateMethod_at (mvP hZ (W hw 93 rfl) (args := #[]))) (mvT hZ (W hw 92 rfl)) (by decide)) (Cond.privateMethod_at (mvP hZ (W hw 93 rfl) (args := #[]))) (mvT hZ (W hw 95 rfl)) (by decide) (backOf (W := 0) (rm16_1 l Z a0 hw [] a1 (p3 + (own_ss p2)) a7 k9 k10 h0 n0 O0 F_8 V_11 F_12 hc13) hZ (W hw 95 rfl) (W hw 61 rfl) (by decide) (by decide)) (g := (mkF m 14 #[vr a1, vi p2, vi p3, vi (p3 + (own_ss p2))] [(.int (p3 + (own_ss p2))), (.ref a1)])) rfl (by rw [hml]; rfl) (Steps.refl _) (a := a1) (by rw [e6]; exact q14) q14' (argsL := [(.int (p3 + (own_ss p2)))]) (rest := []) (lenOf pd_8 rfl) rfl (by show 2 * 0 + _ ≤ _; exact Nat.le_of_eq rfl) (hb hby d21_14) (fun _ _ => ⟨rfl, e6, (by decide : 0 + 0 ≤ _), (by decide : 0 + 0 ≤ _)⟩)
  dsimp only [Pt.U, Pt.locs, Pt.cells, Pt.slots] at X14 l14 y14 z14 st14 hQ14
  subst l14 y14 z14
  obtain ⟨rfl, Nq14, e14⟩ := hQ14
  have N14 := Fr.app N6 Nq14
  obtain ⟨_, T19, L19, X19, hQ19, st19⟩ := cV X14 hx hZ hown (W hw 129 rfl) (W hw 130 rfl) (notFace_of_selects (args := #[]) (mvT hZ (W hw 132 rfl))) (W hw 132 rfl) (W hw 131 rfl) (W hw 133 rfl) (W hw 61 rfl) (by decide) (rm23 l Z a0 hw [] a1 p16 h0 n0 O0 S_17 hc18 F_12) e14 E_15 #[vr a1, vi p2, vi p3, vi (p3 + (own_ss p2))] [] (by rw [hml]; rfl) (hb hby d21_18) pd_18 rfl (W := 0) (Nat.le_of_eq rfl) (by decide) (by decide) (by decide) (by decide)
  obtain ⟨rfl, Nq19, e19⟩ := hQ19
  have N19 := Fr.app N14 Nq19
  obtain ⟨T20, X20, e20, st20⟩ := getF X19 hx hZ hown (host := "") (Or.inl (W hw 65 rfl)) Via.refl e19 F_8 (g := (mkF m 27 #[vr a1, vi p2, vi p3, vi (p3 + (own_ss p2))] [(.ref a1), (.int (p3 + (own_ss p2))), (.int p2)])) rfl rfl (hb hby d21_27)
  obtain ⟨_, _, ⟨T24, L24, k24, n24⟩, -, X24, ⟨Lc24, hQ24, l24, y24, z24⟩, st24⟩ := Jvm.LawKit.callS X20 hx (y := (⟨"java/lang/Integer", "getChars", "(II[B)I"⟩ : MethodName)) hown (mvT hZ (W hw 134 rfl)) (mvT hZ (W hw 135 rfl)) (mvT hZ (W hw 127 rfl)) (mvT hZ (W hw 136 rfl)) (by decide) (own_gcBack (W := 0) hZ (W hw 136 rfl) (W hw 127 rfl) (W hw 137 rfl) (W hw 232 rfl) O0 V_11 g_a7 T_21 hc22 hc23 (by decide) (by decide)) (g := (mkF m 30 #[vr a1, vi p2, vi p3, vi (p3 + (own_ss p2))] [(.ref a7), (.int (p3 + (own_ss p2))), (.int p2)])) rfl (by rw [hml]; rfl) (argsL := [(.int p2), (.int (p3 + (own_ss p2))), (.ref a7)]) (rest := []) (lenOf pd_19 rfl) rfl (by show 2 * 0 + _ ≤ _; exact Nat.le_of_eq rfl) (hb hby d21_30) (fun _ _ => ⟨rfl, e20, (by decide : 0 + 0 ≤ _), (by decide : 0 + 0 ≤ _)⟩)
  dsimp only [Pt.U, Pt.locs, Pt.cells, Pt.slots] at X24 l24 y24 z24 st24 hQ24
  subst l24 y24 z24
  obtain ⟨rfl, Nq24, K24, P24_0⟩ := hQ24
  have N24 := Fr.app N19 Nq24
  have KK24 := Keep.trans (h := h0) (Keep.refl h0 [a7, a1]) K24 (allS (Or.inl (List.mem_of_getElem? (i := 0) rfl)) all0)
  have f26 := (F_4.keep K24 (ninS ne_a1_a7 nin0))
  have f27 := (E_15.keep K24)
  obtain ⟨T28, h28, X28, e28, W28, st28⟩ := putF X24 hx hZ hown (host := "") (Or.inl (W hw 89 rfl)) Via.refl rfl f26 f27 (Or.inl (W hw 90 rfl)) (W hw 52 rfl) (ty := .int) (by decide) rfl rfl (g := (mkF m 50 #[vr a1, vi p2, vi p3, vi (p3 + (own_ss p2))] [(.int (p3 + (own_ss p2))), (.ref a1)])) rfl rfl (hb hby d21_50)
  have K28 := KK24.wr W28 (Or.inl (List.mem_of_getElem? (i := 1) rfl))
  have N28 := Fr.snoc X28 N24 g_a1
  have Fw28 := f26.same W28
  have f29 := ((F_8.keep K24 (ninS ne_a1_a7 nin0)).other W28 (Or.inr (slot_ne (Or.inl (W hw 66 rfl)) (Or.inl (W hw 90 rfl)) (by decide) (t := (.array .byte)) (t' := .int) (by decide) (by decide))))
  have f30 := ((F_12.keep K24 (ninS ne_a1_a7 nin0)).other W28 (Or.inr (slot_ne (Or.inl (W hw 68 rfl)) (Or.inl (W hw 90 rfl)) (by decide) (t := .byte) (t' := .int) (by decide) (by decide))))
  have f31 := (f27.wr W28)
  have f32 := ((E_25.keep K24).wr W28)
  have f33 := (P24_0.other W28 (Ne.symm ne_a1_a7))
  obtain ⟨fs, hr, hrun, hended, hW, hsame⟩ := X28.leave (v := some (.ref a1)) (fun h => by rw [Bd.returns] at h; cases h)
  refine ⟨_, _, pre0 _ ?_, hrun, hended, _, _, rfl, ?_, ⟨_, rfl⟩, hW, hsame.mono (by decide) (by decide)⟩
  · show Steps p.tables e below (s₁.setTop (mkF m 0 #[vr a1, vi p2, .unset, .unset] [])) _
    refine XS.aloadN X0.here hx rfl (hb hby d21_0) rfl rfl ?_
    refine st5 _ ?_
    refine XS.istoreN X5.here hx rfl (hb hby d21_4) rfl (l' := #[vr a1, vi p2, vi p3, .unset]) rfl ?_
    refine XS.iloadN X5.here hx rfl (hb hby d21_5) rfl ?_
    refine XS.iloadN X5.here hx rfl (hb hby d21_6) rfl ?_
    refine st6 _ ?_
    refine XS.iadd X6.here hx rfl (hb hby d21_10) rfl ?_
    refine XS.istoreN X6.here hx rfl (hb hby d21_11) rfl (l' := #[vr a1, vi p2, vi p3, vi (p3 + (own_ss p2))]) rfl ?_
    refine XS.aloadN X6.here hx rfl (hb hby d21_12) rfl rfl ?_
    refine XS.iloadN X6.here hx rfl (hb hby d21_13) rfl ?_
    show Steps p.tables e below (T6.setTop (mkF m 14 #[vr a1, vi p2, vi p3, vi (p3 + (own_ss p2))] [(.int (p3 + (own_ss p2))), (.ref a1)])) _
    refine st14.trans ?_
    refine XS.aloadN X14.here hx rfl (hb hby d21_17) rfl rfl ?_
    refine st19 _ ?_
    refine XS.ifNo X19.here hx rfl (hb hby d21_21) rfl ((if0 _ _).trans (feq ((by decide) : ¬ ((1 : Int32) = (0 : Int32)))).1) ?_
    refine XS.iloadN X19.here hx rfl (hb hby d21_24) rfl ?_
    refine XS.iloadN X19.here hx rfl (hb hby d21_25) rfl ?_
    refine XS.aloadN X19.here hx rfl (hb hby d21_26) rfl rfl ?_
    refine st20 _ ?_
    refine st24 _ ?_
    refine XS.pop X24.here hx rfl (hb hby d21_33) rfl rfl ?_
    show Steps p.tables e below (T24.setTop (mkF m 34 #[vr a1, vi p2, vi p3, vi (p3 + (own_ss p2))] [])) _
    refine XS.goto X24.here hx rfl (pc0 := 34) (pc' := 48) rfl (hb hby d21_34) (by decide) (by decide) ?_
    refine XS.aloadN X24.here hx rfl (hb hby d21_48) rfl rfl ?_
    refine XS.iloadN X24.here hx rfl (hb hby d21_49) rfl ?_
    refine st28 _ ?_
    refine XS.aloadN X28.here hx rfl (hb hby d21_53) rfl rfl ?_
    jvm_step X28.here [X28.here.top, hx, (hb hby d21_54), X28.method', Bd.returns, Value.isRef, FieldType.isReference]
    first | (intro acts; rw [hr _ acts rfl rfl rfl]) | rw [hr _ _ rfl rfl rfl]
    exact Steps.refl _
  · show Qrm21 Z a1 p2 p3 a7 k9 k10 p16 h0 n0 _ T28.heap _
    rw [e28]
    exact ⟨rfl, N28, K28, Fw28, f29, f30, f31, f32, f33⟩
theorem pd_20 : parseMethodDescriptor "(I)Ljava/lang/AbstractStringBuilder;" = some ⟨[.int], some (.object "java/lang/AbstractStringBuilder")⟩ := by decide +kernel
theorem d20_5 : decode jdk_67_method_15_code 5 = .ok (.pop, 1) := by decide +kernel
theorem d20_6 : decode jdk_67_method_15_code 6 = .ok (.aload_n 0, 1) := by decide +kernel
theorem d20_7 : decode jdk_67_method_15_code 7 = .ok (.areturn, 1) := by decide +kernel
theorem ef_20_RI (m : MethodId) (x0 : Addr) (x1 : Int32) : entryFrame m #[(.ref x0), (.int x1)] 2 = mkF m 0 #[vr x0, vi x1] [] := by first | (simp [entryFrame, mkF, argsToLocals, Value.category]; done) | rfl
def Qrm20 (Z : State) (a1 : Addr) (p2 : Int32) (p3 : Int32) (a5 : Addr) (k7 : ClassId) (k8 : (Nat → Int32)) (p13 : Int32) (h0 : Heap) (n0 : Nat) (v : Option Value) (h : Heap) (L : List Loc) : Prop := v = some (.ref a1) ∧ Fr n0 L ∧ Keep h0 h [a5, a1] ∧ Exa Z h a1 "java/lang/StringBuilder" ∧ Fld Z h a1 "java/lang/AbstractStringBuilder" "count" "I" (.int (p3 + (own_ss p2))) ∧ Fld Z h a1 "java/lang/AbstractStringBuilder" "value" "[B" (.ref a5) ∧ Fld Z h a1 "java/lang/AbstractStringBuilder" "coder" "B" (.int 0) ∧ Exa Z h a5 "[B" ∧ Arv Z h a5 k7 .byte (16 : Int32) (own_bs (own_gc p2 (p3 + (own_ss p2)) k8)) (.int (0 : Int32))
set_option maxRecDepth 65536 in
set_option maxHeartbeats 40000000 in
theorem rm20 (l : Launch) (Z : State) (a0 : Array Value) (hw : ∀ d ∈ tables_1, d.before a0 Z = true) (ws : List Jvm.Cond) (a1 : Addr) (p2 : Int32) (p3 : Int32) (a5 : Addr) (k7 : ClassId) (k8 : (Nat → Int32)) (p13 : Int32) (h0 : Heap) (n0 : Nat) (O0 : Old Z n0 h0) (F_4 : Fld Z h0 a1 "java/lang/AbstractStringBuilder" "count" "I" (.int p3)) (F_6 : Fld Z h0 a1 "java/lang/AbstractStringBuilder" "value" "[B" (.ref a5)) (V_9 : Arv Z h0 a5 k7 .byte (16 : Int32) (own_bs k8) (.int 0)) (F_10 : Fld Z h0 a1 "java/lang/AbstractStringBuilder" "coder" "B" (.int 0)) (hc11 : ¬ ((0 : Int32) < ((p3 + (own_ss p2)) - (16 : Int32)))) (E_12 : Exa Z h0 a1 "java/lang/StringBuilder") (S_14 : Sta Z Z.heap "java/lang/String" "COMPACT_STRINGS" "Z" (.int p13)) (hc15 : ¬ (p13 = (0 : Int32))) (g_a5 : n0 ≤ a5) (T_16 : own_Tab Z) (hc17 : ¬ ((p3 + (own_ss p2)) < (own_ss p2))) (hc18 : ¬ ((16 : Int32) < (p3 + (own_ss p2)))) (E_19 : Exa Z h0 a5 "[B") (ne_a1_a5 : a1 ≠ a5) (g_a1 : n0 ≤ a1) :
    MF l Z h0 (⟨"java/lang/StringBuilder", "append", "(I)Ljava/lang/StringBuilder;"⟩ : MethodName) jdk_67_method_15_code 2 (some (.object "java/lang/StringBuilder")) ws (⟨3, 0, 0, 93⟩ : Room) #[(.ref a1), (.int p2)] (Qrm20 Z a1 p2 p3 a5 k7 k8 p13 h0 n0) := by
  refine MetFree.of_bodySF (plainFor_of_name pn_9) hisR ?_
  intro p e s m args below meth c s₁ Bd hml0 hP hK
  obtain ⟨rfl, hZ, hh⟩ := hP
  have hx := Bd.exec
  have hby := Bd.bytes
  have hml : c.maxLocals = 2 := hml0
  have hown : s.vm.findClass "java/lang/StringBuilder" = some m.cls := findClass_of_methodNamed Bd.named
  have X0 : Stand p l e (⟨3, 0, 0, 93⟩ : Room) s m #[(.ref a1), (.int p2)] below meth c s₁ [] 0 0 := Stand.of_body Bd
  have e0 : s₁.heap = h0 := by rw [← hh, Bd.state]; rfl
  have N0 := Fr.nil n0
  have pre0 : ∀ t, Steps p.tables e below (s₁.setTop (mkF m 0 #[vr a1, vi p2] [])) t → Steps p.tables e below (s₁.setTop (entryFrame m #[(.ref a1), (.int p2)] 2)) t := fun t k => castTop (ef_20_RI m a1 p2) k
  obtain ⟨_, _, ⟨T20, L20, k20, n20⟩, -, X20, ⟨Lc20, hQ20, l20, y20, z20⟩, st20⟩ := superBack X0 hx hZ (y := (⟨"java/lang/AbstractStringBuilder", "append", "(I)Ljava/lang/AbstractStringBuilder;"⟩ : MethodName)) hown (W hw 121 rfl) (own_same (y := (⟨"java/lang/AbstractStringBuilder", "append", "(I)Ljava/lang/AbstractStringBuilder;"⟩ : MethodName)) (z := (⟨"java/lang/AbstractStringBuilder", "ensureCapacityInternal", "(I)V"⟩ : MethodName)) (W hw 122 rfl) (W hw 94 rfl) rfl (by decide)) (W hw 122 rfl) (W hw 76 rfl) (by decide) (backOf (W := 0) (rm21 l Z a0 hw [] a1 p2 p3 a5 k7 k8 p13 h0 n0 O0 F_4 F_6 V_9 F_10 hc11 E_12 S_14 hc15 g_a5 T_16 hc17 hc18 E_19 ne_a1_a5 g_a1) hZ (W hw 124 rfl) (W hw 61 rfl) (by decide) (by decide)) e0 (Ins.self E_12) (g := (mkF m 2 #[vr a1, vi p2] [(.int p2), (.ref a1)])) rfl (by rw [hml]; rfl) (W hw 124 rfl) (argsL := [(.int p2)]) (rest := []) (lenOf pd_20 rfl) rfl (by show 2 * 0 + _ ≤ _; exact Nat.le_of_eq rfl) (hb hby d20_2) (fun _ _ => ⟨rfl, e0, (by decide : 0 + 0 ≤ _), (by decide : 0 + 0 ≤ _)⟩)
  dsimp only [Pt.U, Pt.locs, Pt.cells, Pt.slots] at X20 l20 y20 z20 st20 hQ20
  subst l20 y20 z20
  obtain ⟨rfl, Nq20, K20, P20_0, P20_1, P20_2, P20_3, P20_4, P20_5⟩ := hQ20
  have N20 := Fr.app N0 Nq20
  have KK20 := Keep.trans (h := h0) (Keep.refl h0 [a5, a1]) K20 (allS (Or.inl (List.mem_of_getElem? (i := 0) rfl)) (allS (Or.inl (List.mem_of_getElem? (i := 1) rfl)) all0))
  obtain ⟨fs, hr, hrun, hended, hW, hsame⟩ := X20.leave (v := some (.ref a1)) (fun h => by rw [Bd.returns] at h; cases h)
  refine ⟨_, _, pre0 _ ?_, hrun, hended, _, _, rfl, ?_, ⟨_, rfl⟩, hW, hsame.mono (by decide) (by decide)⟩
  · show Steps p.tables e below (s₁.setTop (mkF m 0 #[vr a1, vi p2] [])) _
    refine XS.aloadN X0.here hx rfl (hb hby d20_0) rfl rfl ?_
    refine XS.iloadN X0.here hx rfl (hb hby d20_1) rfl ?_
    refine st20.trans ?_
    refine XS.pop X20.here hx rfl (hb hby d20_5) rfl rfl ?_
    refine XS.aloadN X20.here hx rfl (hb hby d20_6) rfl rfl ?_
    jvm_step X20.here [X20.here.top, hx, (hb hby d20_7), X20.method', Bd.returns, Value.isRef, FieldType.isReference]
    first | (intro acts; rw [hr _ acts rfl rfl rfl]) | rw [hr _ _ rfl rfl rfl]
    exact Steps.refl _
  · show Qrm20 Z a1 p2 p3 a5 k7 k8 p13 h0 n0 _ T20.heap _
    exact ⟨rfl, N20, KK20, P20_3, P20_0, P20_1, P20_2, P20_4, P20_5⟩
theorem pd_21 : parseMethodDescriptor "(I)Ljava/lang/StringBuilder;" = some ⟨[.int], some (.object "java/lang/StringBuilder")⟩ := by decide +kernel
theorem d9_21 : decode prog_10_method_2_code 21 = .ok (.invokevirtual 27, 3) := by decide +kernel
theorem d25_0 : decode jdk_67_method_42_code 0 = .ok (.new 18, 3) := by decide +kernel
theorem d25_3 : decode jdk_67_method_42_code 3 = .ok (.dup, 1) := by decide +kernel
theorem d25_4 : decode jdk_67_method_42_code 4 = .ok (.aload_n 0, 1) := by decide +kernel
theorem d25_5 : decode jdk_67_method_42_code 5 = .ok (.invokespecial 137, 3) := by decide +kernel
theorem d26_0 : decode jdk_42_method_53_code 0 = .ok (.aload_n 0, 1) := by decide +kernel
theorem d26_1 : decode jdk_42_method_53_code 1 = .ok (.aload_n 1, 1) := by decide +kernel
theorem d26_2 : decode jdk_42_method_53_code 2 = .ok (.aconst_null, 1) := by decide +kernel
theorem d26_3 : decode jdk_42_method_53_code 3 = .ok (.invokespecial 489, 3) := by decide +kernel
theorem d27_0 : decode jdk_42_method_150_code 0 = .ok (.aload_n 0, 1) := by decide +kernel
theorem d27_1 : decode jdk_42_method_150_code 1 = .ok (.invokespecial 1, 3) := by decide +kernel
theorem d27_4 : decode jdk_42_method_150_code 4 = .ok (.aload_n 1, 1) := by decide +kernel
theorem d27_5 : decode jdk_42_method_150_code 5 = .ok (.invokevirtual 552, 3) := by decide +kernel
theorem d28_0 : decode jdk_68_method_64_code 0 = .ok (.aload_n 0, 1) := by decide +kernel
theorem d28_1 : decode jdk_68_method_64_code 1 = .ok (.getfield 15, 3) := by decide +kernel
theorem d28_4 : decode jdk_68_method_64_code 4 = .ok (.areturn, 1) := by decide +kernel
theorem ef_28_R (m : MethodId) (x0 : Addr) : entryFrame m #[(.ref x0)] 1 = mkF m 0 #[vr x0] [] := by first | (simp [entryFrame, mkF, argsToLocals, Value.category]; done) | rfl
def Qrm28 (Z : State) (a1 : Addr) (a2 : Addr) (h0 : Heap) (n0 : Nat) (v : Option Value) (h : Heap) (L : List Loc) : Prop := v = some (.ref a2) ∧ Fr n0 L ∧ h = h0
set_option maxRecDepth 65536 in
set_option maxHeartbeats 40000000 in
theorem rm28 (l : Launch) (Z : State) (a0 : Array Value) (hw : ∀ d ∈ tables_1, d.before a0 Z = true) (ws : List Jvm.Cond) (a1 : Addr) (a2 : Addr) (h0 : Heap) (n0 : Nat) (O0 : Old Z n0 h0) (F_3 : Fld Z h0 a1 "java/lang/AbstractStringBuilder" "value" "[B" (.ref a2)) :
    MF l Z h0 (⟨"java/lang/AbstractStringBuilder", "getValue", "()[B"⟩ : MethodName) jdk_68_method_64_code 1 (some (.array .byte)) ws (⟨0, 0, 0, 0⟩ : Room) #[(.ref a1)] (Qrm28 Z a1 a2 h0 n0) := by
  refine MetFree.of_bodySF (plainFor_of_name pn_7) hisR ?_
  intro p e s m args below meth c s₁ Bd hml0 hP hK
  obtain ⟨rfl, hZ, hh⟩ := hP
  have hx := Bd.exec
  have hby := Bd.bytes
  have hown : s.vm.findClass "java/lang/AbstractStringBuilder" = some m.cls := findClass_of_methodNamed Bd.named
  have X0 : Stand p l e (⟨0, 0, 0, 0⟩ : Room) s m #[(.ref a1)] below meth c s₁ [] 0 0 := Stand.of_body Bd
  have e0 : s₁.heap = h0 := by rw [← hh, Bd.state]; rfl
  have N0 := Fr.nil n0
  have pre0 : ∀ t, Steps p.tables e below (s₁.setTop (mkF m 0 #[vr a1] [])) t → Steps p.tables e below (s₁.setTop (entryFrame m #[(.ref a1)] 1)) t := fun t k => castTop (ef_28_R m a1) k
  obtain ⟨T4, X4, e4, st4⟩ := getF X0 hx hZ hown (host := "") (Or.inl (W hw 65 rfl)) Via.refl e0 F_3 (g := (mkF m 1 #[vr a1] [(.ref a1)])) rfl rfl (hb hby d28_1)
  obtain ⟨fs, hr, hrun, hended, hW, hsame⟩ := X4.leave (v := some (.ref a2)) (fun h => by rw [Bd.returns] at h; cases h)
  refine ⟨_, _, pre0 _ ?_, hrun, hended, _, _, rfl, ?_, ⟨_, rfl⟩, hW, hsame.mono (by decide) (by decide)⟩
  · show Steps p.tables e below (s₁.setTop (mkF m 0 #[vr a1] [])) _
    refine XS.aloadN X0.here hx rfl (hb hby d28_0) rfl rfl ?_
    refine st4 _ ?_
    jvm_step X4.here [X4.here.top, hx, (hb hby d28_4), X4.method', Bd.returns, Value.isRef, FieldType.isReference]
    first | (intro acts; rw [hr _ acts rfl rfl rfl]) | rw [hr _ _ rfl rfl rfl]
    exact Steps.refl _
  · show Qrm28 Z a1 a2 h0 n0 _ T4.heap _
    rw [e4]
    exact ⟨rfl, N0, rfl⟩
theorem pd_22 : parseMethodDescriptor "()[B" = some ⟨[], some (.array .byte)⟩ := by decide +kernel
theorem d27_8 : decode jdk_42_method_150_code 8 = .ok (.astore_n 3, 1) := by decide +kernel
theorem d27_9 : decode jdk_42_method_150_code 9 = .ok (.aload_n 1, 1) := by decide +kernel
theorem d27_10 : decode jdk_42_method_150_code 10 = .ok (.invokevirtual 549, 3) := by decide +kernel
theorem d29_0 : decode jdk_67_method_93_code 0 = .ok (.aload_n 0, 1) := by decide +kernel
theorem d29_1 : decode jdk_67_method_93_code 1 = .ok (.invokespecial 343, 3) := by decide +kernel
theorem d30_0 : decode jdk_68_method_6_code 0 = .ok (.aload_n 0, 1) := by decide +kernel
theorem d30_1 : decode jdk_68_method_6_code 1 = .ok (.getfield 79, 3) := by decide +kernel
theorem d30_4 : decode jdk_68_method_6_code 4 = .ok (.ireturn, 1) := by decide +kernel
theorem ef_30_R (m : MethodId) (x0 : Addr) : entryFrame m #[(.ref x0)] 1 = mkF m 0 #[vr x0] [] := by first | (simp [entryFrame, mkF, argsToLocals, Value.category]; done) | rfl
def Qrm30 (Z : State) (a1 : Addr) (p2 : Int32) (h0 : Heap) (n0 : Nat) (v : Option Value) (h : Heap) (L : List Loc) : Prop := v = some (.int p2) ∧ Fr n0 L ∧ h = h0
set_option maxRecDepth 65536 in
set_option maxHeartbeats 40000000 in
theorem rm30 (l : Launch) (Z : State) (a0 : Array Value) (hw : ∀ d ∈ tables_1, d.before a0 Z = true) (ws : List Jvm.Cond) (a1 : Addr) (p2 : Int32) (h0 : Heap) (n0 : Nat) (O0 : Old Z n0 h0) (F_3 : Fld Z h0 a1 "java/lang/AbstractStringBuilder" "count" "I" (.int p2)) :
    MF l Z h0 (⟨"java/lang/AbstractStringBuilder", "length", "()I"⟩ : MethodName) jdk_68_method_6_code 1 (some .int) ws (⟨0, 0, 0, 0⟩ : Room) #[(.ref a1)] (Qrm30 Z a1 p2 h0 n0) := by
  refine MetFree.of_bodySF (plainFor_of_name pn_7) hisR ?_
  intro p e s m args below meth c s₁ Bd hml0 hP hK
  obtain ⟨rfl, hZ, hh⟩ := hP
  have hx := Bd.exec
  have hby := Bd.bytes
  have hown : s.vm.findClass "java/lang/AbstractStringBuilder" = some m.cls := findClass_of_methodNamed Bd.named
  have X0 : Stand p l e (⟨0, 0, 0, 0⟩ : Room) s m #[(.ref a1)] below meth c s₁ [] 0 0 := Stand.of_body Bd
  have e0 : s₁.heap = h0 := by rw [← hh, Bd.state]; rfl
  have N0 := Fr.nil n0
  have pre0 : ∀ t, Steps p.tables e below (s₁.setTop (mkF m 0 #[vr a1] [])) t → Steps p.tables e below (s₁.setTop (entryFrame m #[(.ref a1)] 1)) t := fun t k => castTop (ef_30_R m a1) k
  obtain ⟨T4, X4, e4, st4⟩ := getF X0 hx hZ hown (host := "") (Or.inl (W hw 89 rfl)) Via.refl e0 F_3 (g := (mkF m 1 #[vr a1] [(.ref a1)])) rfl rfl (hb hby d30_1)
  obtain ⟨fs, hr, hrun, hended, hW, hsame⟩ := X4.leave (v := some (.int p2)) (fun h => by rw [Bd.returns] at h; cases h)
  refine ⟨_, _, pre0 _ ?_, hrun, hended, _, _, rfl, ?_, ⟨_, rfl⟩, hW, hsame.mono (by decide) (by decide)⟩
  · show Steps p.tables e below (s₁.setTop (mkF m 0 #[vr a1] [])) _
    refine XS.aloadN X0.here hx rfl (hb hby d30_0) rfl rfl ?_
    refine st4 _ ?_
    exact retI X4 hx Bd.returns (hb hby d30_4) hr
  · show Qrm30 Z a1 p2 h0 n0 _ T4.heap _
    rw [e4]
    exact ⟨rfl, N0, rfl⟩
theorem d29_4 : decode jdk_67_method_93_code 4 = .ok (.ireturn, 1) := by decide +kernel
theorem ef_29_R (m : MethodId) (x0 : Addr) : entryFrame m #[(.ref x0)] 1 = mkF m 0 #[vr x0] [] := by first | (simp [entryFrame, mkF, argsToLocals, Value.category]; done) | rfl
def Qrm29 (Z : State) (a1 : Addr) (p2 : Int32) (h0 : Heap) (n0 : Nat) (v : Option Value) (h : Heap) (L : List Loc) : Prop := v = some (.int p2) ∧ Fr n0 L ∧ h = h0
set_option maxRecDepth 65536 in
set_option maxHeartbeats 40000000 in
theorem rm29 (l : Launch) (Z : State) (a0 : Array Value) (hw : ∀ d ∈ tables_1, d.before a0 Z = true) (ws : List Jvm.Cond) (a1 : Addr) (p2 : Int32) (h0 : Heap) (n0 : Nat) (O0 : Old Z n0 h0) (F_3 : Fld Z h0 a1 "java/lang/AbstractStringBuilder" "count" "I" (.int p2)) (E_5 : Exa Z h0 a1 "java/lang/StringBuilder") :
    MF l Z h0 (⟨"java/lang/StringBuilder", "length", "()I"⟩ : MethodName) jdk_67_method_93_code 1 (some .int) ws (⟨1, 0, 0, 12⟩ : Room) #[(.ref a1)] (Qrm29 Z a1 p2 h0 n0) := by
  refine MetFree.of_bodySF (plainFor_of_name pn_9) hisR ?_
  intro p e s m args below meth c s₁ Bd hml0 hP hK
  obtain ⟨rfl, hZ, hh⟩ := hP
  have hx := Bd.exec
  have hby := Bd.bytes
  have hml : c.maxLocals = 1 := hml0
  have hown : s.vm.findClass "java/lang/StringBuilder" = some m.cls := findClass_of_methodNamed Bd.named
  have X0 : Stand p l e (⟨1, 0, 0, 12⟩ : Room) s m #[(.ref a1)] below meth c s₁ [] 0 0 := Stand.of_body Bd
  have e0 : s₁.heap = h0 := by rw [← hh, Bd.state]; rfl
  have N0 := Fr.nil n0
  have pre0 : ∀ t, Steps p.tables e below (s₁.setTop (mkF m 0 #[vr a1] [])) t → Steps p.tables e below (s₁.setTop (entryFrame m #[(.ref a1)] 1)) t := fun t k => castTop (ef_29_R m a1) k
  obtain ⟨_, _, ⟨T4, L4, k4, n4⟩, -, X4, ⟨Lc4, hQ4, l4, y4, z4⟩, st4⟩ := superBack X0 hx hZ (y := (⟨"java/lang/AbstractStringBuilder", "length", "()I"⟩ : MethodName)) hown (W hw 161 rfl) (own_same (y := (⟨"java/lang/AbstractStringBuilder", "length", "()I"⟩ : MethodName)) (z := (⟨"java/lang/AbstractStringBuilder", "ensureCapacityInternal", "(I)V"⟩ : MethodName)) (W hw 157 rfl) (W hw 94 rfl) rfl (by decide)) (W hw 157 rfl) (W hw 76 rfl) (by decide) (backOf (W := 0) (rm30 l Z a0 hw [] a1 p2 h0 n0 O0 F_3) hZ (W hw 162 rfl) (W hw 61 rfl) (by decide) (by decide)) e0 (Ins.self E_5) (g := (mkF m 1 #[vr a1] [(.ref a1)])) rfl (by rw [hml]; rfl) (W hw 162 rfl) (argsL := []) (rest := []) (lenOf pd_11 rfl) rfl (by show 2 * 0 + _ ≤ _; exact Nat.le_of_eq rfl) (hb hby d29_1) (fun _ _ => ⟨rfl, e0, (by decide : 0 + 0 ≤ _), (by decide : 0 + 0 ≤ _)⟩)
  dsimp only [Pt.U, Pt.locs, Pt.cells, Pt.slots] at X4 l4 y4 z4 st4 hQ4
  subst l4 y4 z4
  obtain ⟨rfl, Nq4, e4⟩ := hQ4
  have N4 := Fr.app N0 Nq4
  obtain ⟨fs, hr, hrun, hended, hW, hsame⟩ := X4.leave (v := some (.int p2)) (fun h => by rw [Bd.returns] at h; cases h)
  refine ⟨_, _, pre0 _ ?_, hrun, hended, _, _, rfl, ?_, ⟨_, rfl⟩, hW, hsame.mono (by decide) (by decide)⟩
  · show Steps p.tables e below (s₁.setTop (mkF m 0 #[vr a1] [])) _
    refine XS.aloadN X0.here hx rfl (hb hby d29_0) rfl rfl ?_
    refine st4.trans ?_
    exact retI X4 hx Bd.returns (hb hby d29_4) hr
  · show Qrm29 Z a1 p2 h0 n0 _ T4.heap _
    rw [e4]
    exact ⟨rfl, N4, rfl⟩
theorem d27_13 : decode jdk_42_method_150_code 13 = .ok (.istore 4, 2) := by decide +kernel
theorem d27_15 : decode jdk_42_method_150_code 15 = .ok (.aload_n 1, 1) := by decide +kernel
theorem d27_16 : decode jdk_42_method_150_code 16 = .ok (.invokevirtual 1047, 3) := by decide +kernel
theorem d27_19 : decode jdk_42_method_150_code 19 = .ok (.ifCond .eq 22, 3) := by decide +kernel
theorem d27_22 : decode jdk_42_method_150_code 22 = .ok (.aload_n 0, 1) := by decide +kernel
theorem d27_23 : decode jdk_42_method_150_code 23 = .ok (.iconst 0, 1) := by decide +kernel
theorem d27_24 : decode jdk_42_method_150_code 24 = .ok (.putfield 15, 3) := by decide +kernel
theorem d27_27 : decode jdk_42_method_150_code 27 = .ok (.aload_n 0, 1) := by decide +kernel
theorem d27_28 : decode jdk_42_method_150_code 28 = .ok (.aload_n 3, 1) := by decide +kernel
theorem d27_29 : decode jdk_42_method_150_code 29 = .ok (.iconst 0, 1) := by decide +kernel
theorem d27_30 : decode jdk_42_method_150_code 30 = .ok (.iload 4, 2) := by decide +kernel
theorem d27_32 : decode jdk_42_method_150_code 32 = .ok (.invokestatic 54, 3) := by decide +kernel
theorem d31_0 : decode jdk_65_method_132_code 0 = .ok (.iload_n 1, 1) := by decide +kernel
theorem d31_1 : decode jdk_65_method_132_code 1 = .ok (.ifCond .ne 9, 3) := by decide +kernel
theorem d31_4 : decode jdk_65_method_132_code 4 = .ok (.iload_n 2, 1) := by decide +kernel
theorem d31_5 : decode jdk_65_method_132_code 5 = .ok (.aload_n 0, 1) := by decide +kernel
theorem d31_6 : decode jdk_65_method_132_code 6 = .ok (.arraylength, 1) := by decide +kernel
theorem d31_7 : decode jdk_65_method_132_code 7 = .ok (.if_icmp .eq 10, 3) := by decide +kernel
theorem d31_10 : decode jdk_65_method_132_code 10 = .ok (.aload_n 0, 1) := by decide +kernel
theorem d31_11 : decode jdk_65_method_132_code 11 = .ok (.iload_n 1, 1) := by decide +kernel
theorem d31_12 : decode jdk_65_method_132_code 12 = .ok (.iload_n 2, 1) := by decide +kernel
theorem d31_13 : decode jdk_65_method_132_code 13 = .ok (.invokestatic 339, 3) := by decide +kernel
theorem d32_0 : decode jdk_65_method_133_code 0 = .ok (.iload_n 1, 1) := by decide +kernel
theorem d32_1 : decode jdk_65_method_133_code 1 = .ok (.iload_n 2, 1) := by decide +kernel
theorem d32_2 : decode jdk_65_method_133_code 2 = .ok (.invokestatic 343, 3) := by decide +kernel
theorem d33_0 : decode jdk_65_method_131_code 0 = .ok (.iload_n 1, 1) := by decide +kernel
theorem d33_1 : decode jdk_65_method_131_code 1 = .ok (.iload_n 0, 1) := by decide +kernel
theorem d33_2 : decode jdk_65_method_131_code 2 = .ok (.if_icmp .ge 35, 3) := by decide +kernel
theorem d33_37 : decode jdk_65_method_131_code 37 = .ok (.return_, 1) := by decide +kernel
theorem ef_33_II (m : MethodId) (x0 : Int32) (x1 : Int32) : entryFrame m #[(.int x0), (.int x1)] 2 = mkF m 0 #[vi x0, vi x1] [] := by first | (simp [entryFrame, mkF, argsToLocals, Value.category]; done) | rfl
theorem pn_23 : plainName "java/util/Arrays" = true := by first | (simp [plainName, overriddenIn]; done) | decide +kernel
def Qrm33 (Z : State) (p1 : Int32) (h0 : Heap) (n0 : Nat) (v : Option Value) (h : Heap) (L : List Loc) : Prop := v = none ∧ Fr n0 L ∧ h = h0
set_option maxRecDepth 65536 in
set_option maxHeartbeats 40000000 in
theorem rm33 (l : Launch) (Z : State) (a0 : Array Value) (hw : ∀ d ∈ tables_1, d.before a0 Z = true) (ws : List Jvm.Cond) (p1 : Int32) (h0 : Heap) (n0 : Nat) (O0 : Old Z n0 h0) (hc2 : ¬ (p1 < (0 : Int32))) :
    MF l Z h0 (⟨"java/util/Arrays", "checkLength", "(II)V"⟩ : MethodName) jdk_65_method_131_code 2 none ws (⟨0, 0, 0, 0⟩ : Room) #[(.int 0), (.int p1)] (Qrm33 Z p1 h0 n0) := by
  refine MetFree.of_bodySF (plainFor_of_name pn_23) hisR ?_
  intro p e s m args below meth c s₁ Bd hml0 hP hK
  obtain ⟨rfl, hZ, hh⟩ := hP
  have hx := Bd.exec
  have hby := Bd.bytes
  have X0 : Stand p l e (⟨0, 0, 0, 0⟩ : Room) s m #[(.int 0), (.int p1)] below meth c s₁ [] 0 0 := Stand.of_body Bd
  have e0 : s₁.heap = h0 := by rw [← hh, Bd.state]; rfl
  have N0 := Fr.nil n0
  have pre0 : ∀ t, Steps p.tables e below (s₁.setTop (mkF m 0 #[vi 0, vi p1] [])) t → Steps p.tables e below (s₁.setTop (entryFrame m #[(.int 0), (.int p1)] 2)) t := fun t k => castTop (ef_33_II m (0 : Int32) p1) k
  obtain ⟨fs, hr, hrun, hended, hW, hsame⟩ := X0.leave (v := none) (fun _ => rfl)
  refine ⟨_, _, pre0 _ ?_, hrun, hended, _, _, rfl, ?_, ⟨_, rfl⟩, hW, hsame.mono (by decide) (by decide)⟩
  · show Steps p.tables e below (s₁.setTop (mkF m 0 #[vi 0, vi p1] [])) _
    refine XS.iloadN X0.here hx rfl (hb hby d33_0) rfl ?_
    refine XS.iloadN X0.here hx rfl (hb hby d33_1) rfl ?_
    refine XS.icmpYes X0.here hx rfl (pc0 := 2) (pc' := 37) rfl (hb hby d33_2) rfl (flt (hc2 : ¬ (p1 < (0 : Int32)))).2.1 (by decide) (by decide) ?_
    exact X0.returnOut hx Bd.returns (hb hby d33_37) hr
  · show Qrm33 Z p1 h0 n0 _ s₁.heap _
    rw [e0]
    exact ⟨rfl, N0, rfl⟩
theorem pd_24 : parseMethodDescriptor "(II)V" = some ⟨[.int, .int], none⟩ := by decide +kernel
theorem d32_5 : decode jdk_65_method_133_code 5 = .ok (.iload_n 2, 1) := by decide +kernel
theorem d32_6 : decode jdk_65_method_133_code 6 = .ok (.iload_n 1, 1) := by decide +kernel
theorem d32_7 : decode jdk_65_method_133_code 7 = .ok (.isub, 1) := by decide +kernel
theorem d32_8 : decode jdk_65_method_133_code 8 = .ok (.istore_n 3, 1) := by decide +kernel
theorem d32_9 : decode jdk_65_method_133_code 9 = .ok (.iload_n 3, 1) := by decide +kernel
theorem d32_10 : decode jdk_65_method_133_code 10 = .ok (.newarray .byte, 2) := by decide +kernel
theorem d32_12 : decode jdk_65_method_133_code 12 = .ok (.astore 4, 2) := by decide +kernel
theorem d32_14 : decode jdk_65_method_133_code 14 = .ok (.aload_n 0, 1) := by decide +kernel
theorem d32_15 : decode jdk_65_method_133_code 15 = .ok (.iload_n 1, 1) := by decide +kernel
theorem d32_16 : decode jdk_65_method_133_code 16 = .ok (.aload 4, 2) := by decide +kernel
theorem d32_18 : decode jdk_65_method_133_code 18 = .ok (.iconst 0, 1) := by decide +kernel
theorem d32_19 : decode jdk_65_method_133_code 19 = .ok (.aload_n 0, 1) := by decide +kernel
theorem d32_20 : decode jdk_65_method_133_code 20 = .ok (.arraylength, 1) := by decide +kernel
theorem d32_21 : decode jdk_65_method_133_code 21 = .ok (.iload_n 1, 1) := by decide +kernel
theorem d32_22 : decode jdk_65_method_133_code 22 = .ok (.isub, 1) := by decide +kernel
theorem d32_23 : decode jdk_65_method_133_code 23 = .ok (.iload_n 3, 1) := by decide +kernel
theorem d32_24 : decode jdk_65_method_133_code 24 = .ok (.invokestatic 304, 3) := by decide +kernel
theorem d34_0 : decode jdk_29_method_69_code 0 = .ok (.iload_n 0, 1) := by decide +kernel
theorem d34_1 : decode jdk_29_method_69_code 1 = .ok (.iload_n 1, 1) := by decide +kernel
theorem d34_2 : decode jdk_29_method_69_code 2 = .ok (.if_icmp .gt 7, 3) := by decide +kernel
theorem d34_9 : decode jdk_29_method_69_code 9 = .ok (.iload_n 1, 1) := by decide +kernel
theorem d34_10 : decode jdk_29_method_69_code 10 = .ok (.ireturn, 1) := by decide +kernel
theorem d34_5 : decode jdk_29_method_69_code 5 = .ok (.iload_n 0, 1) := by decide +kernel
theorem d34_6 : decode jdk_29_method_69_code 6 = .ok (.goto 4, 3) := by decide +kernel
theorem ef_34_II (m : MethodId) (x0 : Int32) (x1 : Int32) : entryFrame m #[(.int x0), (.int x1)] 2 = mkF m 0 #[vi x0, vi x1] [] := by first | (simp [entryFrame, mkF, argsToLocals, Value.category]; done) | rfl
def Qrm34 (Z : State) (p1 : Int32) (p2 : Int32) (h0 : Heap) (n0 : Nat) (v : Option Value) (h : Heap) (L : List Loc) : Prop := v = some (.int (own_minI p1 p2)) ∧ Fr n0 L ∧ h = h0
set_option maxRecDepth 65536 in
set_option maxHeartbeats 40000000 in
theorem rm34 (l : Launch) (Z : State) (a0 : Array Value) (hw : ∀ d ∈ tables_1, d.before a0 Z = true) (ws : List Jvm.Cond) (p1 : Int32) (p2 : Int32) (h0 : Heap) (n0 : Nat) (O0 : Old Z n0 h0) :
    MF l Z h0 (⟨"java/lang/Math", "min", "(II)I"⟩ : MethodName) jdk_29_method_69_code 2 (some .int) ws (⟨0, 0, 0, 0⟩ : Room) #[(.int p1), (.int p2)] (Qrm34 Z p1 p2 h0 n0) := by
  refine MetFree.of_bodySF (Jvm.Free.JP.mathPlain rfl (by decide +kernel)) hisR ?_
  intro p e s m args below meth c s₁ Bd hml0 hP hK
  obtain ⟨rfl, hZ, hh⟩ := hP
  have hx := Bd.exec
  have hby := Bd.bytes
  have X0 : Stand p l e (⟨0, 0, 0, 0⟩ : Room) s m #[(.int p1), (.int p2)] below meth c s₁ [] 0 0 := Stand.of_body Bd
  have e0 : s₁.heap = h0 := by rw [← hh, Bd.state]; rfl
  have N0 := Fr.nil n0
  have pre0 : ∀ t, Steps p.tables e below (s₁.setTop (mkF m 0 #[vi p1, vi p2] [])) t → Steps p.tables e below (s₁.setTop (entryFrame m #[(.int p1), (.int p2)] 2)) t := fun t k => castTop (ef_34_II m p1 p2) k
  have pre3 : ∀ t, Steps p.tables e below (s₁.setTop (mkF m 2 #[vi p1, vi p2] [(.int p2), (.int p1)])) t → Steps p.tables e below (s₁.setTop (entryFrame m #[(.int p1), (.int p2)] 2)) t := fun t kt => pre0 t (by
    show Steps p.tables e below (s₁.setTop (mkF m 0 #[vi p1, vi p2] [])) _
    refine XS.iloadN X0.here hx rfl (hb hby d34_0) rfl ?_
    refine XS.iloadN X0.here hx rfl (hb hby d34_1) rfl ?_
    exact kt)
  by_cases hc : p2 < p1
  · obtain ⟨fs, hr, hrun, hended, hW, hsame⟩ := X0.leave (v := some (.int p2)) (fun h => by rw [Bd.returns] at h; cases h)
    refine ⟨_, _, pre3 _ ?_, hrun, hended, _, _, rfl, ?_, ⟨_, rfl⟩, hW, hsame.mono (by decide) (by decide)⟩
    · show Steps p.tables e below (s₁.setTop (mkF m 2 #[vi p1, vi p2] [(.int p2), (.int p1)])) _
      refine XS.icmpYes X0.here hx rfl (pc0 := 2) (pc' := 9) rfl (hb hby d34_2) rfl (tlt (hc : p2 < p1)).2.2.1 (by decide) (by decide) ?_
      refine XS.iloadN X0.here hx rfl (hb hby d34_9) rfl ?_
      exact retI X0 hx Bd.returns (hb hby d34_10) hr
    · show Qrm34 Z p1 p2 h0 n0 _ s₁.heap _
      rw [e0]
      exact ⟨(by rw [own_minI, if_pos hc]), N0, rfl⟩
  · obtain ⟨fs, hr, hrun, hended, hW, hsame⟩ := X0.leave (v := some (.int p1)) (fun h => by rw [Bd.returns] at h; cases h)
    refine ⟨_, _, pre3 _ ?_, hrun, hended, _, _, rfl, ?_, ⟨_, rfl⟩, hW, hsame.mono (by decide) (by decide)⟩
    · show Steps p.tables e below (s₁.setTop (mkF m 2 #[vi p1, vi p2] [(.int p2), (.int p1)])) _
      refine XS.icmpNo X0.here hx rfl (hb hby d34_2) rfl (flt (hc : ¬ (p2 < p1))).2.2.1 ?_
      refine XS.iloadN X0.here hx rfl (hb hby d34_5) rfl ?_
      refine XS.goto X0.here hx rfl (pc0 := 6) (pc' := 10) rfl (hb hby d34_6) (by decide) (by decide) ?_
      exact retI X0 hx Bd.returns (hb hby d34_10) hr
    · show Qrm34 Z p1 p2 h0 n0 _ s₁.heap _
      rw [e0]
      exact ⟨(by rw [own_minI, if_neg hc]), N0, rfl⟩
theorem pd_25 : parseMethodDescriptor "(II)I" = some ⟨[.int, .int], some .int⟩ := by decide +kernel
theorem d32_27 : decode jdk_65_method_133_code 27 = .ok (.invokestatic 150, 3) := by decide +kernel
theorem d32_30 : decode jdk_65_method_133_code 30 = .ok (.aload 4, 2) := by decide +kernel
theorem d32_32 : decode jdk_65_method_133_code 32 = .ok (.areturn, 1) := by decide +kernel
theorem ef_32_RII (m : MethodId) (x0 : Addr) (x1 : Int32) (x2 : Int32) : entryFrame m #[(.ref x0), (.int x1), (.int x2)] 5 = mkF m 0 #[vr x0, vi x1, vi x2, .unset, .unset] [] := by first | (simp [entryFrame, mkF, argsToLocals, Value.category]; done) | rfl
def Qrm32 (Z : State) (a1 : Addr) (p2 : Int32) (k7 : ClassId) (k8 : (Nat → Int32)) (h0 : Heap) (n0 : Nat) (v : Option Value) (h : Heap) (L : List Loc) : Prop := ∃ b6 : Addr, ∃ k6 : ClassId, v = some (.ref b6) ∧ Fr n0 L ∧ Keep h0 h [] ∧ h0.size ≤ b6 ∧ Exa Z h b6 "[B" ∧ Arv Z h b6 k6 .byte p2 (own_bs k8) (.int 0)
set_option maxRecDepth 65536 in
set_option maxHeartbeats 40000000 in
theorem rm32 (l : Launch) (Z : State) (a0 : Array Value) (hw : ∀ d ∈ tables_1, d.before a0 Z = true) (ws : List Jvm.Cond) (a1 : Addr) (p2 : Int32) (k7 : ClassId) (k8 : (Nat → Int32)) (h0 : Heap) (n0 : Nat) (O0 : Old Z n0 h0) (hc3 : ¬ (p2 < (0 : Int32))) (hc5 : p2 < (16 : Int32)) (V_9 : Arv Z h0 a1 k7 .byte (16 : Int32) (own_bs k8) (.int (0 : Int32))) :
    MF l Z h0 (⟨"java/util/Arrays", "copyOfRangeByte", "([BII)[B"⟩ : MethodName) jdk_65_method_133_code 5 (some (.array .byte)) ws (⟨1, 1, 16, 18⟩ : Room) #[(.ref a1), (.int 0), (.int p2)] (Qrm32 Z a1 p2 k7 k8 h0 n0) := by
  refine MetFree.of_bodySF (plainFor_of_name pn_23) hisR ?_
  intro p e s m args below meth c s₁ Bd hml0 hP hK
  obtain ⟨rfl, hZ, hh⟩ := hP
  have hx := Bd.exec
  have hby := Bd.bytes
  have hml : c.maxLocals = 5 := hml0
  have hown : s.vm.findClass "java/util/Arrays" = some m.cls := findClass_of_methodNamed Bd.named
  have X0 : Stand p l e (⟨1, 1, 16, 18⟩ : Room) s m #[(.ref a1), (.int 0), (.int p2)] below meth c s₁ [] 0 0 := Stand.of_body Bd
  have e0 : s₁.heap = h0 := by rw [← hh, Bd.state]; rfl
  have N0 := Fr.nil n0
  have pre0 : ∀ t, Steps p.tables e below (s₁.setTop (mkF m 0 #[vr a1, vi 0, vi p2, .unset, .unset] [])) t → Steps p.tables e below (s₁.setTop (entryFrame m #[(.ref a1), (.int 0), (.int p2)] 5)) t := fun t k => castTop (ef_32_RII m a1 (0 : Int32) p2) k
  obtain ⟨_, T4, L4, X4, hQ4, st4⟩ := cS X0 hx hZ hown (W hw 171 rfl) (W hw 172 rfl) (W hw 166 rfl) (W hw 173 rfl) (by decide) (rm33 l Z a0 hw [] p2 h0 n0 O0 hc3) e0 #[vr a1, vi 0, vi p2, .unset, .unset] [] (by rw [hml]; rfl) (hb hby d32_2) pd_24 rfl (W := 0) (Nat.le_of_eq rfl) (by decide) (by decide) (by decide) (by decide)
  obtain ⟨rfl, Nq4, e4⟩ := hQ4
  have N4 := Fr.app N0 Nq4
  obtain ⟨T6, h6, k6, X6, e6, E6, A6, B6, st6⟩ := newPE X4 hx hZ (W hw 19 rfl) e4 (g := (mkF m 10 #[vr a1, vi 0, vi p2, vi p2, .unset] [(.int p2)])) rfl (hb hby d32_10) rfl hc3 (cap := 16) (own_cap hc5) (by decide) (by decide) (by decide) (ad := "[B") (by decide)
  obtain ⟨b6, g6⟩ : ∃ z, z = h0.size := ⟨_, rfl⟩
  rw [← g6] at A6 B6 st6
  have g_b6 := own_born O0 (own_eqle g6)
  have sz_b6 := Nat.le_trans (Keep.refl h0 []).1 (own_eqle g6)
  have K6 := (Keep.refl h0 []).ext E6
  have O6 := O0.ext E6
  have V6 : Arv Z h6 b6 k6 .byte p2 [] (.int 0) := Arv.new A6 hc3
  have f10 := (V_9.ext E6)
  obtain ⟨cl11, Ar11, q11, S11, M11, Hs11, G11⟩ := id f10
  obtain ⟨_, T12, L12, X12, hQ12, st12⟩ := cS X6 hx hZ hown (W hw 174 rfl) (W hw 175 rfl) (W hw 176 rfl) (W hw 177 rfl) (by decide) (rm34 l Z a0 hw [] (16 : Int32) p2 h6 n0 O6 ) e6 #[vr a1, vi 0, vi p2, vi p2, vr b6] [(.int 0), (.ref b6), (.int 0), (.ref a1)] (by rw [hml]; rfl) (hb hby d32_24) pd_25 rfl (W := 4) (Nat.le_of_eq rfl) (by decide) (by decide) (by decide) (by decide)
  obtain ⟨rfl, Nq12, e12⟩ := hQ12
  have N12 := Fr.app N4 Nq12
  have V13 : Arv Z h6 b6 k6 .byte p2 [(.int 0), (.int 0), (.int 0), (.int 0), (.int 0), (.int 0), (.int 0), (.int 0), (.int 0), (.int 0), (.int 0), (.int 0), (.int 0), (.int 0), (.int 0), (.int 0)] (.int 0) := V6.pad (pad_rep [] (.int 0) 16)
  obtain ⟨T14, h14, L14, X14, e14, N14, K14, V14, st14⟩ := cpA X12 hx hZ hown (W hw 178 rfl) (W hw 115 rfl) (W hw 113 rfl) (W hw 114 rfl) e12 f10 V13 (Or.inl ⟨rfl, rfl⟩) (by decide) (by decide) hc3 (own_ac1 hc5) (own_ac2 hc3) rfl (own_ac3 hc5) N12 g_b6 (g := (mkF m 27 #[vr a1, vi 0, vi p2, vi p2, vr b6] [(.int p2), (.int 0), (.ref b6), (.int 0), (.ref a1)])) rfl (by rw [hml]; rfl) (rest := []) rfl (hb hby d32_27) (by decide) (W := 0) (by show 2 * 0 + _ ≤ _; exact Nat.le_of_eq rfl) (by decide)
  have KK14 : Keep h0 h14 [] := Keep.trans (h := h6) K6 K14 (allS (Or.inr sz_b6) all0)
  have Vw14 : Arv Z h14 b6 k6 .byte p2 (own_bs k8) (.int 0) := own_copied V14 hc5
  have f15 := (B6.keep K14)
  obtain ⟨fs, hr, hrun, hended, hW, hsame⟩ := X14.leave (v := some (.ref b6)) (fun h => by rw [Bd.returns] at h; cases h)
  refine ⟨_, _, pre0 _ ?_, hrun, hended, _, _, rfl, ?_, ⟨_, rfl⟩, hW, hsame.mono (by decide) (by decide)⟩
  · show Steps p.tables e below (s₁.setTop (mkF m 0 #[vr a1, vi 0, vi p2, .unset, .unset] [])) _
    refine XS.iloadN X0.here hx rfl (hb hby d32_0) rfl ?_
    refine XS.iloadN X0.here hx rfl (hb hby d32_1) rfl ?_
    refine st4 _ ?_
    refine XS.iloadN X4.here hx rfl (hb hby d32_5) rfl ?_
    refine XS.iloadN X4.here hx rfl (hb hby d32_6) rfl ?_
    refine XS.isub X4.here hx rfl (hb hby d32_7) rfl ?_
    show Steps p.tables e below (T4.setTop (mkF m 8 #[vr a1, vi 0, vi p2, .unset, .unset] [(.int (p2 - (0 : Int32)))])) _
    rw [show (p2 - (0 : Int32)) = p2 from own_isub0 _]
    refine XS.istoreN X4.here hx rfl (hb hby d32_8) rfl (l' := #[vr a1, vi 0, vi p2, vi p2, .unset]) rfl ?_
    refine XS.iloadN X4.here hx rfl (hb hby d32_9) rfl ?_
    refine st6 _ ?_
    refine XS.astore X6.here hx rfl (hb hby d32_12) rfl rfl (l' := #[vr a1, vi 0, vi p2, vi p2, vr b6]) rfl ?_
    refine XS.aloadN X6.here hx rfl (hb hby d32_14) rfl rfl ?_
    refine XS.iloadN X6.here hx rfl (hb hby d32_15) rfl ?_
    refine XS.aload X6.here hx rfl (hb hby d32_16) rfl rfl ?_
    refine XS.iconst X6.here hx rfl (hb hby d32_18) ?_
    refine XS.aloadN X6.here hx rfl (hb hby d32_19) rfl rfl ?_
    show Steps p.tables e below (T6.setTop (mkF m 20 #[vr a1, vi 0, vi p2, vi p2, vr b6] [(.ref a1), (.int 0), (.ref b6), (.int 0), (.ref a1)])) _
    refine X6.arraylength hx (by rw [e6]; exact Ar11.1) (State.isArrayOf_alike hZ.alike Ar11.2.1) (g := (mkF m 20 #[vr a1, vi 0, vi p2, vi p2, vr b6] [(.ref a1), (.int 0), (.ref b6), (.int 0), (.ref a1)])) rfl rfl (hb hby d32_20) _ ?_
    rw [len_of S11 M11]
    refine XS.iloadN X6.here hx rfl (hb hby d32_21) rfl ?_
    refine XS.isub X6.here hx rfl (hb hby d32_22) rfl ?_
    show Steps p.tables e below (T6.setTop (mkF m 23 #[vr a1, vi 0, vi p2, vi p2, vr b6] [(.int ((16 : Int32) - (0 : Int32))), (.int 0), (.ref b6), (.int 0), (.ref a1)])) _
    rw [show ((16 : Int32) - (0 : Int32)) = (16 : Int32) from by decide]
    refine XS.iloadN X6.here hx rfl (hb hby d32_23) rfl ?_
    refine st12 _ ?_
    show Steps p.tables e below (T12.setTop (mkF m 27 #[vr a1, vi 0, vi p2, vi p2, vr b6] [(.int (own_minI (16 : Int32) p2)), (.int 0), (.ref b6), (.int 0), (.ref a1)])) _
    rw [show (own_minI (16 : Int32) p2) = p2 from if_pos hc5]
    refine st14 _ ?_
    refine XS.aload X14.here hx rfl (hb hby d32_30) rfl rfl ?_
    jvm_step X14.here [X14.here.top, hx, (hb hby d32_32), X14.method', Bd.returns, Value.isRef, FieldType.isReference]
    first | (intro acts; rw [hr _ acts rfl rfl rfl]) | rw [hr _ _ rfl rfl rfl]
    exact Steps.refl _
  · show Qrm32 Z a1 p2 k7 k8 h0 n0 _ T14.heap _
    rw [e14]
    exact ⟨b6, k6, rfl, N14, KK14, sz_b6, f15, Vw14⟩
theorem pd_26 : parseMethodDescriptor "([BII)[B" = some ⟨[(.array .byte), .int, .int], some (.array .byte)⟩ := by decide +kernel
theorem d31_16 : decode jdk_65_method_132_code 16 = .ok (.areturn, 1) := by decide +kernel
theorem ef_31_RII (m : MethodId) (x0 : Addr) (x1 : Int32) (x2 : Int32) : entryFrame m #[(.ref x0), (.int x1), (.int x2)] 3 = mkF m 0 #[vr x0, vi x1, vi x2] [] := by first | (simp [entryFrame, mkF, argsToLocals, Value.category]; done) | rfl
def Qrm31 (Z : State) (a1 : Addr) (p2 : Int32) (k3 : ClassId) (k4 : (Nat → Int32)) (h0 : Heap) (n0 : Nat) (v : Option Value) (h : Heap) (L : List Loc) : Prop := ∃ b11 : Addr, ∃ k12 : ClassId, v = some (.ref b11) ∧ Fr n0 L ∧ Keep h0 h [] ∧ h0.size ≤ b11 ∧ Exa Z h b11 "[B" ∧ Arv Z h b11 k12 .byte p2 (own_bs k4) (.int 0)
set_option maxRecDepth 65536 in
set_option maxHeartbeats 40000000 in
theorem rm31 (l : Launch) (Z : State) (a0 : Array Value) (hw : ∀ d ∈ tables_1, d.before a0 Z = true) (ws : List Jvm.Cond) (a1 : Addr) (p2 : Int32) (k3 : ClassId) (k4 : (Nat → Int32)) (h0 : Heap) (n0 : Nat) (O0 : Old Z n0 h0) (V_5 : Arv Z h0 a1 k3 .byte (16 : Int32) (own_bs k4) (.int (0 : Int32))) (hc7 : ¬ (p2 = (16 : Int32))) (hc8 : ¬ (p2 < (0 : Int32))) (hc9 : p2 < (16 : Int32)) :
    MF l Z h0 (⟨"java/util/Arrays", "copyOfRange", "([BII)[B"⟩ : MethodName) jdk_65_method_132_code 3 (some (.array .byte)) ws (⟨2, 1, 16, 34⟩ : Room) #[(.ref a1), (.int 0), (.int p2)] (Qrm31 Z a1 p2 k3 k4 h0 n0) := by
  refine MetFree.of_bodySF (plainFor_of_name pn_23) hisR ?_
  intro p e s m args below meth c s₁ Bd hml0 hP hK
  obtain ⟨rfl, hZ, hh⟩ := hP
  have hx := Bd.exec
  have hby := Bd.bytes
  have hml : c.maxLocals = 3 := hml0
  have hown : s.vm.findClass "java/util/Arrays" = some m.cls := findClass_of_methodNamed Bd.named
  have X0 : Stand p l e (⟨2, 1, 16, 34⟩ : Room) s m #[(.ref a1), (.int 0), (.int p2)] below meth c s₁ [] 0 0 := Stand.of_body Bd
  have e0 : s₁.heap = h0 := by rw [← hh, Bd.state]; rfl
  have N0 := Fr.nil n0
  have pre0 : ∀ t, Steps p.tables e below (s₁.setTop (mkF m 0 #[vr a1, vi 0, vi p2] [])) t → Steps p.tables e below (s₁.setTop (entryFrame m #[(.ref a1), (.int 0), (.int p2)] 3)) t := fun t k => castTop (ef_31_RII m a1 (0 : Int32) p2) k
  obtain ⟨cl6, Ar6, q6, S6, M6, Hs6, G6⟩ := id V_5
  obtain ⟨_, T10, L10, X10, hQ10, st10⟩ := cS X0 hx hZ hown (W hw 168 rfl) (W hw 169 rfl) (W hw 166 rfl) (W hw 170 rfl) (by decide) (rm32 l Z a0 hw [] a1 p2 k3 k4 h0 n0 O0 hc8 hc9 V_5) e0 #[vr a1, vi 0, vi p2] [] (by rw [hml]; rfl) (hb hby d31_13) pd_26 rfl (W := 0) (Nat.le_of_eq rfl) (by decide) (by decide) (by decide) (by decide)
  obtain ⟨b11, k12, rfl, Nq10, K10, sq10_b11, P10_0, P10_1⟩ := hQ10
  have N10 := Fr.app N0 Nq10
  have sz_b11 := Nat.le_trans (Keep.refl h0 []).1 sq10_b11
  have KK10 := Keep.trans (h := h0) (Keep.refl h0 []) K10 all0
  obtain ⟨fs, hr, hrun, hended, hW, hsame⟩ := X10.leave (v := some (.ref b11)) (fun h => by rw [Bd.returns] at h; cases h)
  refine ⟨_, _, pre0 _ ?_, hrun, hended, _, _, rfl, ?_, ⟨_, rfl⟩, hW, hsame.mono (by decide) (by decide)⟩
  · show Steps p.tables e below (s₁.setTop (mkF m 0 #[vr a1, vi 0, vi p2] [])) _
    refine XS.iloadN X0.here hx rfl (hb hby d31_0) rfl ?_
    refine XS.ifNo X0.here hx rfl (hb hby d31_1) rfl ((if0 _ _).trans (teq ((by decide) : (0 : Int32) = (0 : Int32))).2) ?_
    refine XS.iloadN X0.here hx rfl (hb hby d31_4) rfl ?_
    refine XS.aloadN X0.here hx rfl (hb hby d31_5) rfl rfl ?_
    refine X0.arraylength hx (by rw [e0]; exact Ar6.1) (State.isArrayOf_alike hZ.alike Ar6.2.1) (g := (mkF m 6 #[vr a1, vi 0, vi p2] [(.ref a1), (.int p2)])) rfl rfl (hb hby d31_6) _ ?_
    rw [len_of S6 M6]
    refine XS.icmpNo X0.here hx rfl (hb hby d31_7) rfl (feq (hc7 : ¬ (p2 = (16 : Int32)))).1 ?_
    refine XS.aloadN X0.here hx rfl (hb hby d31_10) rfl rfl ?_
    refine XS.iloadN X0.here hx rfl (hb hby d31_11) rfl ?_
    refine XS.iloadN X0.here hx rfl (hb hby d31_12) rfl ?_
    show Steps p.tables e below (s₁.setTop (mkF m 13 #[vr a1, vi 0, vi p2] [(.int p2), (.int 0), (.ref a1)])) _
    refine st10 _ ?_
    jvm_step X10.here [X10.here.top, hx, (hb hby d31_16), X10.method', Bd.returns, Value.isRef, FieldType.isReference]
    first | (intro acts; rw [hr _ acts rfl rfl rfl]) | rw [hr _ _ rfl rfl rfl]
    exact Steps.refl _
  · show Qrm31 Z a1 p2 k3 k4 h0 n0 _ T10.heap _
    exact ⟨b11, k12, rfl, N10, KK10, sz_b11, P10_0, P10_1⟩
theorem d27_35 : decode jdk_42_method_150_code 35 = .ok (.putfield 9, 3) := by decide +kernel
theorem d27_38 : decode jdk_42_method_150_code 38 = .ok (.goto 59, 3) := by decide +kernel
theorem d27_97 : decode jdk_42_method_150_code 97 = .ok (.return_, 1) := by decide +kernel
theorem ef_27_RRn (m : MethodId) (x0 : Addr) (x1 : Addr) : entryFrame m #[(.ref x0), (.ref x1), .null] 5 = mkF m 0 #[vr x0, vr x1, .val .null, .unset, .unset] [] := by first | (simp [entryFrame, mkF, argsToLocals, Value.category]; done) | rfl
def Qrm27 (Z : State) (a1 : Addr) (a2 : Addr) (a5 : Addr) (p8 : Int32) (p11 : Int32) (k20 : ClassId) (k21 : (Nat → Int32)) (h0 : Heap) (n0 : Nat) (v : Option Value) (h : Heap) (L : List Loc) : Prop := ∃ b28 : Addr, ∃ k29 : ClassId, v = none ∧ Fr n0 L ∧ Keep h0 h [a1] ∧ h0.size ≤ b28 ∧ Exa Z h a1 "java/lang/String" ∧ Fld Z h a1 "java/lang/String" "coder" "B" (.int 0) ∧ Fld Z h a1 "java/lang/String" "value" "[B" (.ref b28) ∧ Exa Z h b28 "[B" ∧ Arv Z h b28 k29 .byte p8 (own_bs k21) (.int 0)
set_option maxRecDepth 65536 in
set_option maxHeartbeats 40000000 in
theorem rm27 (l : Launch) (Z : State) (a0 : Array Value) (hw : ∀ d ∈ tables_1, d.before a0 Z = true) (ws : List Jvm.Cond) (a1 : Addr) (a2 : Addr) (a5 : Addr) (p8 : Int32) (p11 : Int32) (k20 : ClassId) (k21 : (Nat → Int32)) (h0 : Heap) (n0 : Nat) (O0 : Old Z n0 h0) (E_4 : Exa Z h0 a2 "java/lang/StringBuilder") (F_6 : Fld Z h0 a2 "java/lang/AbstractStringBuilder" "value" "[B" (.ref a5)) (F_9 : Fld Z h0 a2 "java/lang/AbstractStringBuilder" "count" "I" (.int p8)) (S_12 : Sta Z Z.heap "java/lang/String" "COMPACT_STRINGS" "Z" (.int p11)) (hc13 : ¬ (p11 = (0 : Int32))) (F_14 : Fld Z h0 a2 "java/lang/AbstractStringBuilder" "coder" "B" (.int 0)) (E_16 : Exa Z h0 a1 "java/lang/String") (F_17 : Fld Z h0 a1 "java/lang/String" "coder" "B" (.int 0)) (g_a1 : n0 ≤ a1) (F_19 : Fld Z h0 a1 "java/lang/String" "value" "[B" .null) (V_22 : Arv Z h0 a5 k20 .byte (16 : Int32) (own_bs k21) (.int (0 : Int32))) (hc23 : ¬ (p8 = (16 : Int32))) (hc24 : ¬ (p8 < (0 : Int32))) (hc25 : p8 < (16 : Int32)) (ne_a5_a1 : a5 ≠ a1) :
    MF l Z h0 (⟨"java/lang/String", "<init>", "(Ljava/lang/AbstractStringBuilder;Ljava/lang/Void;)V"⟩ : MethodName) jdk_42_method_150_code 5 none ws (⟨3, 1, 16, 49⟩ : Room) #[(.ref a1), (.ref a2), .null] (Qrm27 Z a1 a2 a5 p8 p11 k20 k21 h0 n0) := by
  refine MetFree.of_bodySF (plainFor_of_name pn_0) hisR ?_
  intro p e s m args below meth c s₁ Bd hml0 hP hK
  obtain ⟨rfl, hZ, hh⟩ := hP
  have hx := Bd.exec
  have hby := Bd.bytes
  have hml : c.maxLocals = 5 := hml0
  have hown : s.vm.findClass "java/lang/String" = some m.cls := findClass_of_methodNamed Bd.named
  have hnm := (name_of_methodNamed Bd.named Bd.method).1
  have X0 : Stand p l e (⟨3, 1, 16, 49⟩ : Room) s m #[(.ref a1), (.ref a2), .null] below meth c s₁ [] 0 0 := Stand.of_body Bd
  have e0 : s₁.heap = h0 := by rw [← hh, Bd.state]; rfl
  have N0 := Fr.nil n0
  have pre0 : ∀ t, Steps p.tables e below (s₁.setTop (mkF m 0 #[vr a1, vr a2, .val .null, .unset, .unset] [])) t → Steps p.tables e below (s₁.setTop (entryFrame m #[(.ref a1), (.ref a2), .null] 5)) t := fun t k => castTop (ef_27_RRn m a1 a2) k
  obtain ⟨T3, X3, e3, st3⟩ := initO X0 hx hZ hown (W hw 11 rfl) (W hw 12 rfl) (W hw 13 rfl) e0 (g := (mkF m 1 #[vr a1, vr a2, .val .null, .unset, .unset] [(.ref a1)])) rfl (by rw [hml]; rfl) rfl (hb hby d27_1) (by decide) (W := 0) (by show 2 * 0 + _ ≤ _; exact Nat.le_of_eq rfl) (by decide)
  obtain ⟨_, T7, L7, X7, hQ7, st7⟩ := cV X3 hx hZ hown (W hw 150 rfl) (W hw 151 rfl) (notFace_of_selects (args := #[]) (mvT hZ (W hw 153 rfl))) (W hw 153 rfl) (W hw 152 rfl) (W hw 154 rfl) (W hw 61 rfl) (by decide) (rm28 l Z a0 hw [] a2 a5 h0 n0 O0 F_6) e3 E_4 #[vr a1, vr a2, .val .null, .unset, .unset] [] (by rw [hml]; rfl) (hb hby d27_5) pd_22 rfl (W := 0) (Nat.le_of_eq rfl) (by decide) (by decide) (by decide) (by decide)
  obtain ⟨rfl, Nq7, e7⟩ := hQ7
  have N7 := Fr.app N0 Nq7
  obtain ⟨_, T10, L10, X10, hQ10, st10⟩ := cV X7 hx hZ hown (W hw 155 rfl) (W hw 156 rfl) (own_nf (y := (⟨"java/lang/AbstractStringBuilder", "length", "()I"⟩ : MethodName)) (z := (⟨"java/lang/AbstractStringBuilder", "getValue", "()[B"⟩ : MethodName)) (a := #[]) (mvT hZ (W hw 153 rfl)) rfl) (W hw 158 rfl) (W hw 159 rfl) (W hw 160 rfl) (W hw 53 rfl) (by decide) (rm29 l Z a0 hw [] a2 p8 h0 n0 O0 F_9 E_4) e7 E_4 #[vr a1, vr a2, .val .null, vr a5, .unset] [] (by rw [hml]; rfl) (hb hby d27_10) pd_11 rfl (W := 0) (Nat.le_of_eq rfl) (by decide) (by decide) (by decide) (by decide)
  obtain ⟨rfl, Nq10, e10⟩ := hQ10
  have N10 := Fr.app N7 Nq10
  obtain ⟨_, T15, L15, X15, hQ15, st15⟩ := cV X10 hx hZ hown (W hw 163 rfl) (W hw 130 rfl) (notFace_of_selects (args := #[]) (mvT hZ (W hw 132 rfl))) (W hw 132 rfl) (W hw 131 rfl) (W hw 133 rfl) (W hw 61 rfl) (by decide) (rm23 l Z a0 hw [] a2 p11 h0 n0 O0 S_12 hc13 F_14) e10 E_4 #[vr a1, vr a2, .val .null, vr a5, vi p8] [] (by rw [hml]; rfl) (hb hby d27_16) pd_18 rfl (W := 0) (Nat.le_of_eq rfl) (by decide) (by decide) (by decide) (by decide)
  obtain ⟨rfl, Nq15, e15⟩ := hQ15
  have N15 := Fr.app N10 Nq15
  obtain ⟨T18, h18, X18, e18, W18, st18⟩ := putFN X15 hx hZ hown (W hw 26 rfl) Via.refl e15 F_17 E_16 (Or.inr ⟨(W hw 27 rfl), rfl, hnm⟩) (W hw 1 rfl) (ty := .byte) (v' := (.int 0)) (by decide) rfl rfl (g := (mkF m 24 #[vr a1, vr a2, .val .null, vr a5, vi p8] [(.int 0), (.ref a1)])) rfl rfl (hb hby d27_24)
  have K18 := (Keep.refl h0 [a1]).wr W18 (Or.inl (List.mem_of_getElem? (i := 0) rfl))
  have O18 := O0.wr W18 g_a1
  have N18 := Fr.snoc X18 N15 g_a1
  have Fw18 := F_17.same W18
  have f26 := (V_22.other W18 ne_a5_a1)
  obtain ⟨_, T27, L27, X27, hQ27, st27⟩ := cS X18 hx hZ hown (W hw 164 rfl) (W hw 165 rfl) (W hw 166 rfl) (W hw 167 rfl) (by decide) (rm31 l Z a0 hw [] a5 p8 k20 k21 h18 n0 O18 f26 hc23 hc24 hc25) e18 #[vr a1, vr a2, .val .null, vr a5, vi p8] [(.ref a1)] (by rw [hml]; rfl) (hb hby d27_32) pd_26 rfl (W := 1) (Nat.le_of_eq rfl) (by decide) (by decide) (by decide) (by decide)
  obtain ⟨b28, k29, rfl, Nq27, K27, sq27_b28, P27_0, P27_1⟩ := hQ27
  have N27 := Fr.app N18 Nq27
  have f32 := (E_16.wr W18)
  have ne33 := (own_ltn f32.lt sq27_b28)
  have sz_b28 := Nat.le_trans K18.1 sq27_b28
  have KK27 := Keep.trans (h := h18) K18 K27 all0
  have f35 := ((F_19.other W18 (Or.inr (slot_ne (Or.inr (W hw 29 rfl)) (Or.inr (W hw 27 rfl)) (by decide) (t := (.array .byte)) (t' := .byte) (by decide) (by decide)))).keep K27 nin0)
  have f36 := (f32.keep K27)
  obtain ⟨T37, h37, X37, e37, W37, st37⟩ := putF X27 hx hZ hown (host := "") (Or.inl (W hw 28 rfl)) Via.refl rfl f35 f36 (Or.inr ⟨(W hw 29 rfl), rfl, hnm⟩) (W hw 1 rfl) (ty := (.array .byte)) (by decide) rfl rfl (g := (mkF m 35 #[vr a1, vr a2, .val .null, vr a5, vi p8] [(.ref b28), (.ref a1)])) rfl rfl (hb hby d27_35)
  have K37 := KK27.wr W37 (Or.inl (List.mem_of_getElem? (i := 0) rfl))
  have N37 := Fr.snoc X37 N27 g_a1
  have Fw37 := f35.same W37
  have f38 := (f36.wr W37)
  have f39 := ((Fw18.keep K27 nin0).other W37 (Or.inr (slot_ne (Or.inr (W hw 27 rfl)) (Or.inr (W hw 29 rfl)) (by decide) (t := .byte) (t' := (.array .byte)) (by decide) (by decide))))
  have f40 := (P27_0.wr W37)
  have f41 := (P27_1.other W37 (Ne.symm ne33))
  obtain ⟨fs, hr, hrun, hended, hW, hsame⟩ := X37.leave (v := none) (fun _ => rfl)
  refine ⟨_, _, pre0 _ ?_, hrun, hended, _, _, rfl, ?_, ⟨_, rfl⟩, hW, hsame.mono (by decide) (by decide)⟩
  · show Steps p.tables e below (s₁.setTop (mkF m 0 #[vr a1, vr a2, .val .null, .unset, .unset] [])) _
    refine XS.aloadN X0.here hx rfl (hb hby d27_0) rfl rfl ?_
    refine st3 _ ?_
    refine XS.aloadN X3.here hx rfl (hb hby d27_4) rfl rfl ?_
    refine st7 _ ?_
    refine XS.astoreN X7.here hx rfl (hb hby d27_8) rfl rfl (l' := #[vr a1, vr a2, .val .null, vr a5, .unset]) rfl ?_
    refine XS.aloadN X7.here hx rfl (hb hby d27_9) rfl rfl ?_
    refine st10 _ ?_
    refine XS.istore X10.here hx rfl (hb hby d27_13) rfl (l' := #[vr a1, vr a2, .val .null, vr a5, vi p8]) rfl ?_
    refine XS.aloadN X10.here hx rfl (hb hby d27_15) rfl rfl ?_
    refine st15 _ ?_
    show Steps p.tables e below (T15.setTop (mkF m 19 #[vr a1, vr a2, .val .null, vr a5, vi p8] [(.int 1)])) _
    refine XS.ifNo X15.here hx rfl (hb hby d27_19) rfl ((if0 _ _).trans (feq ((by decide) : ¬ ((1 : Int32) = (0 : Int32)))).1) ?_
    refine XS.aloadN X15.here hx rfl (hb hby d27_22) rfl rfl ?_
    refine XS.iconst X15.here hx rfl (hb hby d27_23) ?_
    refine st18 _ ?_
    refine XS.aloadN X18.here hx rfl (hb hby d27_27) rfl rfl ?_
    refine XS.aloadN X18.here hx rfl (hb hby d27_28) rfl rfl ?_
    refine XS.iconst X18.here hx rfl (hb hby d27_29) ?_
    refine XS.iload X18.here hx rfl (hb hby d27_30) rfl ?_
    refine st27 _ ?_
    refine st37 _ ?_
    show Steps p.tables e below (T37.setTop (mkF m 38 #[vr a1, vr a2, .val .null, vr a5, vi p8] [])) _
    refine XS.goto X37.here hx rfl (pc0 := 38) (pc' := 97) rfl (hb hby d27_38) (by decide) (by decide) ?_
    exact X37.returnOut hx Bd.returns (hb hby d27_97) hr
  · show Qrm27 Z a1 a2 a5 p8 p11 k20 k21 h0 n0 _ T37.heap _
    rw [e37]
    exact ⟨b28, k29, rfl, N37, K37, sz_b28, f38, f39, Fw37, f40, f41⟩
theorem pd_27 : parseMethodDescriptor "(Ljava/lang/AbstractStringBuilder;Ljava/lang/Void;)V" = some ⟨[(.object "java/lang/AbstractStringBuilder"), (.object "java/lang/Void")], none⟩ := by decide +kernel
theorem d26_6 : decode jdk_42_method_53_code 6 = .ok (.return_, 1) := by decide +kernel
theorem ef_26_RR (m : MethodId) (x0 : Addr) (x1 : Addr) : entryFrame m #[(.ref x0), (.ref x1)] 2 = mkF m 0 #[vr x0, vr x1] [] := by first | (simp [entryFrame, mkF, argsToLocals, Value.category]; done) | rfl
def Qrm26 (Z : State) (a1 : Addr) (a2 : Addr) (a4 : Addr) (p6 : Int32) (p8 : Int32) (k15 : ClassId) (k16 : (Nat → Int32)) (h0 : Heap) (n0 : Nat) (v : Option Value) (h : Heap) (L : List Loc) : Prop := ∃ b22 : Addr, ∃ k23 : ClassId, v = none ∧ Fr n0 L ∧ Keep h0 h [a1] ∧ h0.size ≤ b22 ∧ Exa Z h a1 "java/lang/String" ∧ Fld Z h a1 "java/lang/String" "coder" "B" (.int 0) ∧ Fld Z h a1 "java/lang/String" "value" "[B" (.ref b22) ∧ Exa Z h b22 "[B" ∧ Arv Z h b22 k23 .byte p6 (own_bs k16) (.int 0)
set_option maxRecDepth 65536 in
set_option maxHeartbeats 40000000 in
theorem rm26 (l : Launch) (Z : State) (a0 : Array Value) (hw : ∀ d ∈ tables_1, d.before a0 Z = true) (ws : List Jvm.Cond) (a1 : Addr) (a2 : Addr) (a4 : Addr) (p6 : Int32) (p8 : Int32) (k15 : ClassId) (k16 : (Nat → Int32)) (h0 : Heap) (n0 : Nat) (O0 : Old Z n0 h0) (E_3 : Exa Z h0 a2 "java/lang/StringBuilder") (F_5 : Fld Z h0 a2 "java/lang/AbstractStringBuilder" "value" "[B" (.ref a4)) (F_7 : Fld Z h0 a2 "java/lang/AbstractStringBuilder" "count" "I" (.int p6)) (S_9 : Sta Z Z.heap "java/lang/String" "COMPACT_STRINGS" "Z" (.int p8)) (hc10 : ¬ (p8 = (0 : Int32))) (F_11 : Fld Z h0 a2 "java/lang/AbstractStringBuilder" "coder" "B" (.int 0)) (E_12 : Exa Z h0 a1 "java/lang/String") (F_13 : Fld Z h0 a1 "java/lang/String" "coder" "B" (.int 0)) (g_a1 : n0 ≤ a1) (F_14 : Fld Z h0 a1 "java/lang/String" "value" "[B" .null) (V_17 : Arv Z h0 a4 k15 .byte (16 : Int32) (own_bs k16) (.int (0 : Int32))) (hc18 : ¬ (p6 = (16 : Int32))) (hc19 : ¬ (p6 < (0 : Int32))) (hc20 : p6 < (16 : Int32)) (ne_a4_a1 : a4 ≠ a1) :
    MF l Z h0 (⟨"java/lang/String", "<init>", "(Ljava/lang/StringBuilder;)V"⟩ : MethodName) jdk_42_method_53_code 2 none ws (⟨4, 1, 16, 65⟩ : Room) #[(.ref a1), (.ref a2)] (Qrm26 Z a1 a2 a4 p6 p8 k15 k16 h0 n0) := by
  refine MetFree.of_bodySF (plainFor_of_name pn_0) hisR ?_
  intro p e s m args below meth c s₁ Bd hml0 hP hK
  obtain ⟨rfl, hZ, hh⟩ := hP
  have hx := Bd.exec
  have hby := Bd.bytes
  have hml : c.maxLocals = 2 := hml0
  have hown : s.vm.findClass "java/lang/String" = some m.cls := findClass_of_methodNamed Bd.named
  have X0 : Stand p l e (⟨4, 1, 16, 65⟩ : Room) s m #[(.ref a1), (.ref a2)] below meth c s₁ [] 0 0 := Stand.of_body Bd
  have e0 : s₁.heap = h0 := by rw [← hh, Bd.state]; rfl
  have N0 := Fr.nil n0
  have pre0 : ∀ t, Steps p.tables e below (s₁.setTop (mkF m 0 #[vr a1, vr a2] [])) t → Steps p.tables e below (s₁.setTop (entryFrame m #[(.ref a1), (.ref a2)] 2)) t := fun t k => castTop (ef_26_RR m a1 a2) k
  obtain ⟨_, T21, L21, X21, hQ21, st21⟩ := cI X0 hx hZ hown (W hw 147 rfl) (W hw 148 rfl) (W hw 149 rfl) (W hw 2 rfl) rfl (by decide) (rm27 l Z a0 hw [] a1 a2 a4 p6 p8 k15 k16 h0 n0 O0 E_3 F_5 F_7 S_9 hc10 F_11 E_12 F_13 g_a1 F_14 V_17 hc18 hc19 hc20 ne_a4_a1) e0 #[vr a1, vr a2] [] (by rw [hml]; rfl) (hb hby d26_3) pd_27 rfl (W := 0) (Nat.le_of_eq rfl) (by decide) (by decide) (by decide) (by decide)
  obtain ⟨b22, k23, rfl, Nq21, K21, sq21_b22, P21_0, P21_1, P21_2, P21_3, P21_4⟩ := hQ21
  have N21 := Fr.app N0 Nq21
  have sz_b22 := Nat.le_trans (Keep.refl h0 [a1]).1 sq21_b22
  have KK21 := Keep.trans (h := h0) (Keep.refl h0 [a1]) K21 (allS (Or.inl (List.mem_of_getElem? (i := 0) rfl)) all0)
  obtain ⟨fs, hr, hrun, hended, hW, hsame⟩ := X21.leave (v := none) (fun _ => rfl)
  refine ⟨_, _, pre0 _ ?_, hrun, hended, _, _, rfl, ?_, ⟨_, rfl⟩, hW, hsame.mono (by decide) (by decide)⟩
  · show Steps p.tables e below (s₁.setTop (mkF m 0 #[vr a1, vr a2] [])) _
    refine XS.aloadN X0.here hx rfl (hb hby d26_0) rfl rfl ?_
    refine XS.aloadN X0.here hx rfl (hb hby d26_1) rfl rfl ?_
    refine XS.aconstNull X0.here hx rfl (hb hby d26_2) ?_
    refine st21 _ ?_
    exact X21.returnOut hx Bd.returns (hb hby d26_6) hr
  · show Qrm26 Z a1 a2 a4 p6 p8 k15 k16 h0 n0 _ T21.heap _
    exact ⟨b22, k23, rfl, N21, KK21, sz_b22, P21_0, P21_1, P21_2, P21_3, P21_4⟩
theorem pd_28 : parseMethodDescriptor "(Ljava/lang/StringBuilder;)V" = some ⟨[(.object "java/lang/StringBuilder")], none⟩ := by decide +kernel
theorem d25_8 : decode jdk_67_method_42_code 8 = .ok (.areturn, 1) := by decide +kernel
theorem ef_25_R (m : MethodId) (x0 : Addr) : entryFrame m #[(.ref x0)] 1 = mkF m 0 #[vr x0] [] := by first | (simp [entryFrame, mkF, argsToLocals, Value.category]; done) | rfl
def Qrm25 (Z : State) (a1 : Addr) (a4 : Addr) (p6 : Int32) (p8 : Int32) (k12 : ClassId) (k13 : (Nat → Int32)) (h0 : Heap) (n0 : Nat) (v : Option Value) (h : Heap) (L : List Loc) : Prop := ∃ b2 : Addr, ∃ b24 : Addr, ∃ k25 : ClassId, v = some (.ref b2) ∧ Fr n0 L ∧ Keep h0 h [] ∧ h0.size ≤ b2 ∧ h0.size ≤ b24 ∧ b2 ≠ b24 ∧ Exa Z h b2 "java/lang/String" ∧ Fld Z h b2 "java/lang/String" "coder" "B" (.int 0) ∧ Fld Z h b2 "java/lang/String" "value" "[B" (.ref b24) ∧ Exa Z h b24 "[B" ∧ Arv Z h b24 k25 .byte p6 (own_bs k13) (.int 0)
set_option maxRecDepth 65536 in
set_option maxHeartbeats 40000000 in
theorem rm25 (l : Launch) (Z : State) (a0 : Array Value) (hw : ∀ d ∈ tables_1, d.before a0 Z = true) (ws : List Jvm.Cond) (a1 : Addr) (a4 : Addr) (p6 : Int32) (p8 : Int32) (k12 : ClassId) (k13 : (Nat → Int32)) (h0 : Heap) (n0 : Nat) (O0 : Old Z n0 h0) (E_3 : Exa Z h0 a1 "java/lang/StringBuilder") (F_5 : Fld Z h0 a1 "java/lang/AbstractStringBuilder" "value" "[B" (.ref a4)) (F_7 : Fld Z h0 a1 "java/lang/AbstractStringBuilder" "count" "I" (.int p6)) (S_9 : Sta Z Z.heap "java/lang/String" "COMPACT_STRINGS" "Z" (.int p8)) (hc10 : ¬ (p8 = (0 : Int32))) (F_11 : Fld Z h0 a1 "java/lang/AbstractStringBuilder" "coder" "B" (.int 0)) (V_14 : Arv Z h0 a4 k12 .byte (16 : Int32) (own_bs k13) (.int (0 : Int32))) (hc15 : ¬ (p6 = (16 : Int32))) (hc16 : ¬ (p6 < (0 : Int32))) (hc17 : p6 < (16 : Int32)) :
    MF l Z h0 (⟨"java/lang/StringBuilder", "toString", "()Ljava/lang/String;"⟩ : MethodName) jdk_67_method_42_code 1 (some (.object "java/lang/String")) ws (⟨5, 2, 20, 79⟩ : Room) #[(.ref a1)] (Qrm25 Z a1 a4 p6 p8 k12 k13 h0 n0) := by
  refine MetFree.of_bodySF (plainFor_of_name pn_9) hisR ?_
  intro p e s m args below meth c s₁ Bd hml0 hP hK
  obtain ⟨rfl, hZ, hh⟩ := hP
  have hx := Bd.exec
  have hby := Bd.bytes
  have hml : c.maxLocals = 1 := hml0
  have hown : s.vm.findClass "java/lang/StringBuilder" = some m.cls := findClass_of_methodNamed Bd.named
  have X0 : Stand p l e (⟨5, 2, 20, 79⟩ : Room) s m #[(.ref a1)] below meth c s₁ [] 0 0 := Stand.of_body Bd
  have e0 : s₁.heap = h0 := by rw [← hh, Bd.state]; rfl
  have N0 := Fr.nil n0
  have pre0 : ∀ t, Steps p.tables e below (s₁.setTop (mkF m 0 #[vr a1] [])) t → Steps p.tables e below (s₁.setTop (entryFrame m #[(.ref a1)] 1)) t := fun t k => castTop (ef_25_R m a1) k
  obtain ⟨T2, h2, X2, e2, E2, A2, D2, U2, st2⟩ := newO X0 hx hZ hown (W hw 143 rfl) (W hw 1 rfl) (W hw 2 rfl) e0 (g := (mkF m 0 #[vr a1] [])) rfl (hb hby d25_0) (by decide) (by decide)
  obtain ⟨b2, g2⟩ : ∃ z, z = h0.size := ⟨_, rfl⟩
  rw [← g2] at A2 D2 U2 st2
  have g_b2 := own_born O0 (own_eqle g2)
  have sz_b2 := Nat.le_trans (Keep.refl h0 []).1 (own_eqle g2)
  have K2 := (Keep.refl h0 []).ext E2
  have O2 := O0.ext E2
  have F2_coder : Fld Z h2 b2 "java/lang/String" "coder" "B" (.int 0) := D2 (Or.inr (W hw 27 rfl)) (ty := .byte) (by decide)
  have F2_value : Fld Z h2 b2 "java/lang/String" "value" "[B" .null := D2 (Or.inr (W hw 29 rfl)) (ty := (.array .byte)) (by decide)
  have f18 := (E_3.ext E2)
  have f19 := (F_5.ext E2)
  have f20 := (F_7.ext E2)
  have f21 := (F_11.ext E2)
  have f22 := (V_14.ext E2)
  obtain ⟨_, T23, L23, X23, hQ23, st23⟩ := cI X2 hx hZ hown (W hw 144 rfl) (W hw 145 rfl) (W hw 146 rfl) (W hw 2 rfl) rfl (by decide) (rm26 l Z a0 hw [] b2 a1 a4 p6 p8 k12 k13 h2 n0 O2 f18 f19 f20 S_9 hc10 f21 A2 F2_coder g_b2 F2_value f22 hc15 hc16 hc17 (own_ltn V_14.lt sz_b2)) e2 #[vr a1] [(.ref b2)] (by rw [hml]; rfl) (hb hby d25_5) pd_28 rfl (W := 1) (Nat.le_of_eq rfl) (by decide) (by decide) (by decide) (by decide)
  obtain ⟨b24, k25, rfl, Nq23, K23, sq23_b24, P23_0, P23_1, P23_2, P23_3, P23_4⟩ := hQ23
  have N23 := Fr.app N0 Nq23
  have ne26 := (own_ltn A2.lt sq23_b24)
  have sz_b24 := Nat.le_trans K2.1 sq23_b24
  have KK23 := Keep.trans (h := h2) K2 K23 (allS (Or.inr sz_b2) all0)
  obtain ⟨fs, hr, hrun, hended, hW, hsame⟩ := X23.leave (v := some (.ref b2)) (fun h => by rw [Bd.returns] at h; cases h)
  refine ⟨_, _, pre0 _ ?_, hrun, hended, _, _, rfl, ?_, ⟨_, rfl⟩, hW, hsame.mono (by decide) (by decide)⟩
  · show Steps p.tables e below (s₁.setTop (mkF m 0 #[vr a1] [])) _
    refine st2 _ ?_
    refine XS.dup X2.here hx rfl (hb hby d25_3) rfl rfl ?_
    refine XS.aloadN X2.here hx rfl (hb hby d25_4) rfl rfl ?_
    refine st23 _ ?_
    jvm_step X23.here [X23.here.top, hx, (hb hby d25_8), X23.method', Bd.returns, Value.isRef, FieldType.isReference]
    first | (intro acts; rw [hr _ acts rfl rfl rfl]) | rw [hr _ _ rfl rfl rfl]
    exact Steps.refl _
  · show Qrm25 Z a1 a4 p6 p8 k12 k13 h0 n0 _ T23.heap _
    exact ⟨b2, b24, k25, rfl, N23, KK23, sz_b2, sz_b24, ne26, P23_0, P23_1, P23_2, P23_3, P23_4⟩
theorem pd_29 : parseMethodDescriptor "()Ljava/lang/String;" = some ⟨[], some (.object "java/lang/String")⟩ := by decide +kernel
theorem d9_24 : decode prog_10_method_2_code 24 = .ok (.areturn, 1) := by decide +kernel
theorem ef_9_R (m : MethodId) (x0 : Addr) : entryFrame m #[(.ref x0)] 1 = mkF m 0 #[vr x0] [] := by first | (simp [entryFrame, mkF, argsToLocals, Value.category]; done) | rfl
def Qrm9 (Z : State) (a1 : Addr) (p3 : Int32) (a10 : Addr) (a15 : Addr) (k17 : ClassId) (p18 : Int32) (k19 : (Nat → Int32)) (p30 : Int32) (h0 : Heap) (n0 : Nat) (v : Option Value) (h : Heap) (L : List Loc) : Prop := ∃ b43 : Addr, ∃ b44 : Addr, ∃ k45 : ClassId, v = some (.ref b43) ∧ Fr n0 L ∧ Keep h0 h [] ∧ h0.size ≤ b43 ∧ h0.size ≤ b44 ∧ b43 ≠ b44 ∧ Exa Z h b43 "java/lang/String" ∧ Fld Z h b43 "java/lang/String" "coder" "B" (.int 0) ∧ Fld Z h b43 "java/lang/String" "value" "[B" (.ref b44) ∧ Exa Z h b44 "[B" ∧ Arv Z h b44 k45 .byte (p18 + (own_ss p30)) (own_bs (own_gc p30 (p18 + (own_ss p30)) (own_cut p18 k19))) (.int 0)
set_option maxRecDepth 65536 in
set_option maxHeartbeats 40000000 in
theorem rm9 (l : Launch) (Z : State) (a0 : Array Value) (hw : ∀ d ∈ tables_1, d.before a0 Z = true) (ws : List Jvm.Cond) (a1 : Addr) (p3 : Int32) (a10 : Addr) (a15 : Addr) (k17 : ClassId) (p18 : Int32) (k19 : (Nat → Int32)) (p30 : Int32) (h0 : Heap) (n0 : Nat) (O0 : Old Z n0 h0) (S_4 : Sta Z Z.heap "java/lang/String" "COMPACT_STRINGS" "Z" (.int p3)) (hc5 : ¬ (p3 = (0 : Int32))) (F_11 : Fld Z h0 a1 "com/example/tight_bound/tightbound/HeapObject" "className" "Ljava/lang/String;" (.ref a10)) (E_14 : Exa Z h0 a10 "java/lang/String") (F_16 : Fld Z h0 a10 "java/lang/String" "value" "[B" (.ref a15)) (V_20 : Arv Z h0 a15 k17 .byte p18 (own_bs k19) (.int (0 : Int32))) (F_21 : Fld Z h0 a10 "java/lang/String" "coder" "B" (.int 0)) (hc22 : ¬ ((0 : Int32) < (p18 - (16 : Int32)))) (hc23 : ¬ (p18 < (0 : Int32))) (hc24 : p18 < (16 : Int32)) (F_31 : Fld Z h0 a1 "com/example/tight_bound/tightbound/HeapObject" "number" "I" (.int p30)) (hc34 : ¬ ((0 : Int32) < ((p18 + (own_ss p30)) - (16 : Int32)))) (T_35 : own_Tab Z) (hc36 : ¬ ((p18 + (own_ss p30)) < (own_ss p30))) (hc37 : ¬ ((16 : Int32) < (p18 + (own_ss p30)))) (hc39 : ¬ ((p18 + (own_ss p30)) = (16 : Int32))) (hc40 : ¬ ((p18 + (own_ss p30)) < (0 : Int32))) (hc41 : (p18 + (own_ss p30)) < (16 : Int32)) :
    MF l Z h0 (⟨"com/example/tight_bound/tightbound/HeapObject", "toString", "()Ljava/lang/String;"⟩ : MethodName) prog_10_method_2_code 1 (some (.object "java/lang/String")) ws (⟨6, 4, 40, 106⟩ : Room) #[(.ref a1)] (Qrm9 Z a1 p3 a10 a15 k17 p18 k19 p30 h0 n0) := by
  refine MetFree.of_bodySF (plainFor_of_name pn_5) hisR ?_
  intro p e s m args below meth c s₁ Bd hml0 hP hK
  obtain ⟨rfl, hZ, hh⟩ := hP
  have hx := Bd.exec
  have hby := Bd.bytes
  have hml : c.maxLocals = 1 := hml0
  have hown : s.vm.findClass "com/example/tight_bound/tightbound/HeapObject" = some m.cls := findClass_of_methodNamed Bd.named
  have X0 : Stand p l e (⟨6, 4, 40, 106⟩ : Room) s m #[(.ref a1)] below meth c s₁ [] 0 0 := Stand.of_body Bd
  have e0 : s₁.heap = h0 := by rw [← hh, Bd.state]; rfl
  have N0 := Fr.nil n0
  have pre0 : ∀ t, Steps p.tables e below (s₁.setTop (mkF m 0 #[vr a1] [])) t → Steps p.tables e below (s₁.setTop (entryFrame m #[(.ref a1)] 1)) t := fun t k => castTop (ef_9_R m a1) k
  obtain ⟨T2, h2, X2, e2, E2, A2, D2, U2, st2⟩ := newO X0 hx hZ hown (W hw 51 rfl) (W hw 52 rfl) (W hw 53 rfl) e0 (g := (mkF m 0 #[vr a1] [])) rfl (hb hby d9_0) (by decide) (by decide)
  obtain ⟨b2, g2⟩ : ∃ z, z = h0.size := ⟨_, rfl⟩
  rw [← g2] at A2 D2 U2 st2
  have g_b2 := own_born O0 (own_eqle g2)
  have sz_b2 := Nat.le_trans (Keep.refl h0 []).1 (own_eqle g2)
  have K2 := (Keep.refl h0 []).ext E2
  have O2 := O0.ext E2
  have F2_value : Fld Z h2 b2 "java/lang/AbstractStringBuilder" "value" "[B" .null := D2 (Or.inl (W hw 66 rfl)) (ty := (.array .byte)) (by decide)
  have F2_coder : Fld Z h2 b2 "java/lang/AbstractStringBuilder" "coder" "B" (.int 0) := D2 (Or.inl (W hw 68 rfl)) (ty := .byte) (by decide)
  have F2_count : Fld Z h2 b2 "java/lang/AbstractStringBuilder" "count" "I" (.int 0) := D2 (Or.inl (W hw 90 rfl)) (ty := .int) (by decide)
  obtain ⟨_, T6, L6, X6, hQ6, st6⟩ := cI X2 hx hZ hown (W hw 54 rfl) (W hw 55 rfl) (W hw 56 rfl) (W hw 53 rfl) rfl (by decide) (rm10 l Z a0 hw [] b2 p3 h2 n0 O2 S_4 hc5 A2 F2_value g_b2 F2_coder F2_count) e2 #[vr a1] [(.ref b2)] (by rw [hml]; rfl) (hb hby d9_4) pd_4 rfl (W := 1) (Nat.le_of_eq rfl) (by decide) (by decide) (by decide) (by decide)
  obtain ⟨b7, k8, rfl, Nq6, K6, sq6_b7, P6_0, P6_1, P6_2, P6_3, P6_4, P6_5⟩ := hQ6
  have N6 := Fr.app N0 Nq6
  have ne9 := (own_ltn A2.lt sq6_b7)
  have g_b7 := own_born O2 sq6_b7
  have sz_b7 := Nat.le_trans K2.1 sq6_b7
  have KK6 := Keep.trans (h := h2) K2 K6 (allS (Or.inr sz_b2) all0)
  have O6 := O2.keep K6 (allS g_b2 all0)
  have f12 := ((F_11.ext E2).keep K6 (ninS (own_ltn F_11.lt sz_b2) nin0))
  obtain ⟨T13, X13, e13, st13⟩ := getF X6 hx hZ hown (host := "") (Or.inl (W hw 42 rfl)) Via.refl rfl f12 (g := (mkF m 8 #[vr a1] [(.ref a1), (.ref b2)])) rfl rfl (hb hby d9_8)
  have f25 := ((E_14.ext E2).keep K6)
  have f26 := ((F_16.ext E2).keep K6 (ninS (own_ltn E_14.lt sz_b2) nin0))
  have f27 := ((V_20.ext E2).keep K6 (ninS (own_ltn V_20.lt sz_b2) nin0))
  have f28 := ((F_21.ext E2).keep K6 (ninS (own_ltn E_14.lt sz_b2) nin0))
  obtain ⟨_, T29, L29, X29, hQ29, st29⟩ := cV X13 hx hZ hown (W hw 69 rfl) (W hw 70 rfl) (notFace_of_selects (args := #[]) (mvT hZ (W hw 72 rfl))) (W hw 72 rfl) (W hw 71 rfl) (W hw 73 rfl) (W hw 53 rfl) (by decide) (rm12 l Z a0 hw [] b2 a10 a15 k17 p18 k19 p3 b7 k8 T6.heap n0 O6 f25 f26 f27 S_4 hc5 f28 P6_3 P6_1 P6_5 P6_2 hc22 P6_0 P6_4 g_b7 hc23 hc24 ne9 g_b2) e13 P6_0 #[vr a1] [] (by rw [hml]; rfl) (hb hby d9_11) pd_16 rfl (W := 0) (Nat.le_of_eq rfl) (by decide) (by decide) (by decide) (by decide)
  obtain ⟨rfl, Nq29, K29, P29_0, P29_1, P29_2, P29_3, P29_4, P29_5⟩ := hQ29
  have N29 := Fr.app N6 Nq29
  have KK29 := Keep.trans (h := T6.heap) KK6 K29 (allS (Or.inr sz_b7) (allS (Or.inr sz_b2) all0))
  have O29 := O6.keep K29 (allS g_b7 (allS g_b2 all0))
  have f32 := (((F_31.ext E2).keep K6 (ninS (own_ltn F_11.lt sz_b2) nin0)).keep K29 (ninS (own_ltn F_11.lt sz_b7) (ninS (own_ltn F_11.lt sz_b2) nin0)))
  obtain ⟨T33, X33, e33, st33⟩ := getF X29 hx hZ hown (host := "") (Or.inl (W hw 44 rfl)) Via.refl rfl f32 (g := (mkF m 15 #[vr a1] [(.ref a1), (.ref b2)])) rfl rfl (hb hby d9_15)
  obtain ⟨_, T38, L38, X38, hQ38, st38⟩ := cV X33 hx hZ hown (W hw 116 rfl) (W hw 117 rfl) (notFace_of_selects (args := #[]) (mvT hZ (W hw 119 rfl))) (W hw 119 rfl) (W hw 118 rfl) (W hw 120 rfl) (W hw 53 rfl) (by decide) (rm20 l Z a0 hw [] b2 p30 p18 b7 k8 (own_cut p18 k19) p3 T29.heap n0 O29 P29_1 P29_2 P29_5 P29_3 hc34 P29_0 S_4 hc5 g_b7 T_35 hc36 hc37 P29_4 ne9 g_b2) e33 P29_0 #[vr a1] [] (by rw [hml]; rfl) (hb hby d9_18) pd_21 rfl (W := 0) (Nat.le_of_eq rfl) (by decide) (by decide) (by decide) (by decide)
  obtain ⟨rfl, Nq38, K38, P38_0, P38_1, P38_2, P38_3, P38_4, P38_5⟩ := hQ38
  have N38 := Fr.app N29 Nq38
  have KK38 := Keep.trans (h := T29.heap) KK29 K38 (allS (Or.inr sz_b7) (allS (Or.inr sz_b2) all0))
  have O38 := O29.keep K38 (allS g_b7 (allS g_b2 all0))
  obtain ⟨_, T42, L42, X42, hQ42, st42⟩ := cV X38 hx hZ hown (W hw 138 rfl) (W hw 139 rfl) (notFace_of_selects (args := #[]) (mvT hZ (W hw 141 rfl))) (W hw 141 rfl) (W hw 140 rfl) (W hw 142 rfl) (W hw 53 rfl) (by decide) (rm25 l Z a0 hw [] b2 b7 (p18 + (own_ss p30)) p3 k8 (own_gc p30 (p18 + (own_ss p30)) (own_cut p18 k19)) T38.heap n0 O38 P38_0 P38_2 P38_1 S_4 hc5 P38_3 P38_5 hc39 hc40 hc41) rfl P38_0 #[vr a1] [] (by rw [hml]; rfl) (hb hby d9_21) pd_29 rfl (W := 0) (Nat.le_of_eq rfl) (by decide) (by decide) (by decide) (by decide)
  obtain ⟨b43, b44, k45, rfl, Nq42, K42, sq42_b43, sq42_b44, P42_0, P42_1, P42_2, P42_3, P42_4, P42_5⟩ := hQ42
  have N42 := Fr.app N38 Nq42
  have sz_b43 := Nat.le_trans KK38.1 sq42_b43
  have sz_b44 := Nat.le_trans KK38.1 sq42_b44
  have KK42 := Keep.trans (h := T38.heap) KK38 K42 all0
  obtain ⟨fs, hr, hrun, hended, hW, hsame⟩ := X42.leave (v := some (.ref b43)) (fun h => by rw [Bd.returns] at h; cases h)
  refine ⟨_, _, pre0 _ ?_, hrun, hended, _, _, rfl, ?_, ⟨_, rfl⟩, hW, hsame.mono (by decide) (by decide)⟩
  · show Steps p.tables e below (s₁.setTop (mkF m 0 #[vr a1] [])) _
    refine st2 _ ?_
    refine XS.dup X2.here hx rfl (hb hby d9_3) rfl rfl ?_
    refine st6 _ ?_
    refine XS.aloadN X6.here hx rfl (hb hby d9_7) rfl rfl ?_
    refine st13 _ ?_
    refine st29 _ ?_
    refine XS.aloadN X29.here hx rfl (hb hby d9_14) rfl rfl ?_
    refine st33 _ ?_
    refine st38 _ ?_
    refine st42 _ ?_
    show Steps p.tables e below (T42.setTop (mkF m 24 #[vr a1] [(.ref b43)])) _
    jvm_step X42.here [X42.here.top, hx, (hb hby d9_24), X42.method', Bd.returns, Value.isRef, FieldType.isReference]
    first | (intro acts; rw [hr _ acts rfl rfl rfl]) | rw [hr _ _ rfl rfl rfl]
    exact Steps.refl _
  · show Qrm9 Z a1 p3 a10 a15 k17 p18 k19 p30 h0 n0 _ T42.heap _
    exact ⟨b43, b44, k45, rfl, N42, KK42, sz_b43, sz_b44, P42_0, P42_1, P42_2, P42_3, P42_4, P42_5⟩
theorem d35_0 : decode jdk_29_method_61_code 0 = .ok (.lload_n 0, 1) := by decide +kernel
theorem d35_1 : decode jdk_29_method_61_code 1 = .ok (.lconst 0, 1) := by decide +kernel
theorem d35_2 : decode jdk_29_method_61_code 2 = .ok (.lcmp, 1) := by decide +kernel
theorem d35_3 : decode jdk_29_method_61_code 3 = .ok (.ifCond .ge 8, 3) := by decide +kernel
theorem d35_6 : decode jdk_29_method_61_code 6 = .ok (.lload_n 0, 1) := by decide +kernel
theorem d35_7 : decode jdk_29_method_61_code 7 = .ok (.lneg, 1) := by decide +kernel
theorem d35_8 : decode jdk_29_method_61_code 8 = .ok (.goto 4, 3) := by decide +kernel
theorem d35_12 : decode jdk_29_method_61_code 12 = .ok (.lreturn, 1) := by decide +kernel
theorem d35_11 : decode jdk_29_method_61_code 11 = .ok (.lload_n 0, 1) := by decide +kernel
theorem ef_35_J (m : MethodId) (x0 : Int64) : entryFrame m #[(.long x0)] 2 = mkF m 0 #[.val (.long x0), .second] [] := by first | (simp [entryFrame, mkF, argsToLocals, Value.category]; done) | rfl
def Qrm35 (Z : State) (q1 : Int64) (h0 : Heap) (n0 : Nat) (v : Option Value) (h : Heap) (L : List Loc) : Prop := v = some (.long (own_absJ q1)) ∧ Fr n0 L ∧ h = h0
set_option maxRecDepth 65536 in
set_option maxHeartbeats 40000000 in
theorem rm35 (l : Launch) (Z : State) (a0 : Array Value) (hw : ∀ d ∈ tables_1, d.before a0 Z = true) (ws : List Jvm.Cond) (q1 : Int64) (h0 : Heap) (n0 : Nat) (O0 : Old Z n0 h0) :
    MF l Z h0 (⟨"java/lang/Math", "abs", "(J)J"⟩ : MethodName) jdk_29_method_61_code 2 (some .long) ws (⟨0, 0, 0, 0⟩ : Room) #[(.long q1)] (Qrm35 Z q1 h0 n0) := by
  refine MetFree.of_bodySF (Jvm.Free.JP.mathPlain rfl (by decide +kernel)) hisR ?_
  intro p e s m args below meth c s₁ Bd hml0 hP hK
  obtain ⟨rfl, hZ, hh⟩ := hP
  have hx := Bd.exec
  have hby := Bd.bytes
  have X0 : Stand p l e (⟨0, 0, 0, 0⟩ : Room) s m #[(.long q1)] below meth c s₁ [] 0 0 := Stand.of_body Bd
  have e0 : s₁.heap = h0 := by rw [← hh, Bd.state]; rfl
  have N0 := Fr.nil n0
  have pre0 : ∀ t, Steps p.tables e below (s₁.setTop (mkF m 0 #[.val (.long q1), .second] [])) t → Steps p.tables e below (s₁.setTop (entryFrame m #[(.long q1)] 2)) t := fun t k => castTop (ef_35_J m q1) k
  have pre2 : ∀ t, Steps p.tables e below (s₁.setTop (mkF m 3 #[.val (.long q1), .second] [(.int (lcmpW q1 (0 : Int64)))])) t → Steps p.tables e below (s₁.setTop (entryFrame m #[(.long q1)] 2)) t := fun t kt => pre0 t (by
    show Steps p.tables e below (s₁.setTop (mkF m 0 #[.val (.long q1), .second] [])) _
    refine XS.lloadN X0.here hx rfl (hb hby d35_0) rfl ?_
    refine XS.lconst X0.here hx rfl (hb hby d35_1) ?_
    refine XS.lcmp X0.here hx rfl (hb hby d35_2) rfl ?_
    exact kt)
  by_cases hc : (lcmpW q1 (0 : Int64)) < (0 : Int32)
  · obtain ⟨fs, hr, hrun, hended, hW, hsame⟩ := X0.leave (v := some (.long (-q1))) (fun h => by rw [Bd.returns] at h; cases h)
    refine ⟨_, _, pre2 _ ?_, hrun, hended, _, _, rfl, ?_, ⟨_, rfl⟩, hW, hsame.mono (by decide) (by decide)⟩
    · show Steps p.tables e below (s₁.setTop (mkF m 3 #[.val (.long q1), .second] [(.int (lcmpW q1 (0 : Int64)))])) _
      refine XS.ifNo X0.here hx rfl (hb hby d35_3) rfl ((if0 _ _).trans (tlt (hc : (lcmpW q1 (0 : Int64)) < (0 : Int32))).2.1) ?_
      refine XS.lloadN X0.here hx rfl (hb hby d35_6) rfl ?_
      refine XS.lneg X0.here hx rfl (hb hby d35_7) rfl ?_
      refine XS.goto X0.here hx rfl (pc0 := 8) (pc' := 12) rfl (hb hby d35_8) (by decide) (by decide) ?_
      exact X0.lreturnOut hx Bd.returns (hb hby d35_12) hr
    · show Qrm35 Z q1 h0 n0 _ s₁.heap _
      rw [e0]
      exact ⟨(by rw [own_absJ, if_pos hc]), N0, rfl⟩
  · obtain ⟨fs, hr, hrun, hended, hW, hsame⟩ := X0.leave (v := some (.long q1)) (fun h => by rw [Bd.returns] at h; cases h)
    refine ⟨_, _, pre2 _ ?_, hrun, hended, _, _, rfl, ?_, ⟨_, rfl⟩, hW, hsame.mono (by decide) (by decide)⟩
    · show Steps p.tables e below (s₁.setTop (mkF m 3 #[.val (.long q1), .second] [(.int (lcmpW q1 (0 : Int64)))])) _
      refine XS.ifYes X0.here hx rfl (pc0 := 3) (pc' := 11) rfl (hb hby d35_3) rfl ((if0 _ _).trans (flt (hc : ¬ ((lcmpW q1 (0 : Int64)) < (0 : Int32)))).2.1) (by decide) (by decide) ?_
      refine XS.lloadN X0.here hx rfl (hb hby d35_11) rfl ?_
      exact X0.lreturnOut hx Bd.returns (hb hby d35_12) hr
    · show Qrm35 Z q1 h0 n0 _ s₁.heap _
      rw [e0]
      exact ⟨(by rw [own_absJ, if_neg hc]), N0, rfl⟩
theorem pd_30 : parseMethodDescriptor "(J)J" = some ⟨[.long], some .long⟩ := by decide +kernel
set_option maxRecDepth 65536 in
set_option maxHeartbeats 40000000 in
theorem sg0_135_157 {p : Program} {l : Launch} {e : Env} {R : Room} {s : State} {m : MethodId} {args : Array Value} {below : List Frame} {meth : Method} {c : Code} {T0 : State} {locs : List Loc} {cells slots : Nat} {Z : State} {a0 : Array Value} (hw : ∀ d ∈ tables_1, d.before a0 Z = true) (p1 : Int32) (p2 : Int32) (p3 : Int32) (p4 : Int32) (p5 : Int32) (p6 : Int32) (p7 : Int32) (a8 : Addr) (p11 : Int32) (a15 : Addr) (k17 : ClassId) (p18 : Int32) (k19 : (Nat → Int32)) (h0 : Heap) (n0 : Nat) (O0 : Old Z n0 h0) (S_12 : Sta Z Z.heap "java/lang/String" "COMPACT_STRINGS" "Z" (.int p11)) (hc13 : ¬ (p11 = (0 : Int32))) (E_14 : Exa Z h0 a8 "java/lang/String") (F_16 : Fld Z h0 a8 "java/lang/String" "value" "[B" (.ref a15)) (V_20 : Arv Z h0 a15 k17 .byte p18 (own_bs k19) (.int (0 : Int32))) (F_21 : Fld Z h0 a8 "java/lang/String" "coder" "B" (.int 0)) (hc22 : ¬ ((0 : Int32) < (p18 - (16 : Int32)))) (hc23 : ¬ (p18 < (0 : Int32))) (hc24 : p18 < (16 : Int32)) (hc25 : ¬ ((0 : Int32) < ((p18 + (own_ss p3)) - (16 : Int32)))) (T_26 : own_Tab Z) (hc27 : ¬ ((p18 + (own_ss p3)) < (own_ss p3))) (hc28 : ¬ ((16 : Int32) < (p18 + (own_ss p3)))) (hc29 : ¬ ((p18 + (own_ss p3)) = (16 : Int32))) (hc30 : ¬ ((p18 + (own_ss p3)) < (0 : Int32))) (hc31 : (p18 + (own_ss p3)) < (16 : Int32))
    (X0 : Stand p l e R s m args below meth c T0 locs cells slots) (hx : p.tables.exec = Jvm.exec) (hZ : Z.Warmed39 s.vm) (hby : c.code = code) (hml : c.maxLocals = 14) (hown : s.vm.findClass "com/example/tight_bound/tightbound/HeapObjectToStringPinLaw" = some m.cls) (e0 : T0.heap = h0) (N0 : Fr n0 locs) (hrc : cells + 5 ≤ R.cells) (hrs : slots + 42 ≤ R.slots) (hrf : 7 ≤ R.frames) (hrl : 118 ≤ R.locals) :
    ∃ (T' : State) (L' : List Loc), Stand p l e R s m args below meth c T' L' (cells + 5) (slots + 42) ∧ Fr n0 L' ∧ (∃ b37 : Addr, ∃ b38 : Addr, ∃ k39 : ClassId, Keep h0 T'.heap [] ∧ h0.size ≤ b37 ∧ h0.size ≤ b38 ∧ b37 ≠ b38 ∧ Exa Z T'.heap b37 "java/lang/String" ∧ Fld Z T'.heap b37 "java/lang/String" "coder" "B" (.int 0) ∧ Fld Z T'.heap b37 "java/lang/String" "value" "[B" (.ref b38) ∧ Exa Z T'.heap b38 "[B" ∧ Arv Z T'.heap b38 k39 .byte (p18 + (own_ss p3)) (own_bs (own_gc p3 (p18 + (own_ss p3)) (own_cut p18 k19))) (.int 0) ∧ (∀ t, Steps p.tables e below (T'.setTop (mkF m 157 #[vi p1, vi p2, vi p3, vi p4, vi p5, vi p6, vi p7, vr a8, vr b37, .val (.long (own_absJ (p3.toInt64))), .second, .unset, .unset, .unset] [])) t → Steps p.tables e below (T0.setTop (mkF m 135 #[vi p1, vi p2, vi p3, vi p4, vi p5, vi p6, vi p7, vr a8, .unset, .unset, .unset, .unset, .unset, .unset] [])) t)) := by
  obtain ⟨T9, h9, X9, e9, E9, A9, D9, U9, st9⟩ := newO X0 hx hZ hown (W hw 30 rfl) (W hw 31 rfl) (W hw 32 rfl) e0 (g := (mkF m 135 #[vi p1, vi p2, vi p3, vi p4, vi p5, vi p6, vi p7, vr a8, .unset, .unset, .unset, .unset, .unset, .unset] [])) rfl (hb hby at_135) (Nat.le_trans (by omega) hrc : cells + 1 ≤ R.cells) (Nat.le_trans (by omega) hrs : slots + 2 ≤ R.slots)
  obtain ⟨b9, g9⟩ : ∃ z, z = h0.size := ⟨_, rfl⟩
  rw [← g9] at A9 D9 U9 st9
  have g_b9 := own_born O0 (own_eqle g9)
  have sz_b9 := Nat.le_trans (Keep.refl h0 []).1 (own_eqle g9)
  have K9 := (Keep.refl h0 []).ext E9
  have O9 := O0.ext E9
  have F9_className : Fld Z h9 b9 "com/example/tight_bound/tightbound/HeapObject" "className" "Ljava/lang/String;" .null := D9 (Or.inr (W hw 43 rfl)) (ty := (.object "java/lang/String")) (by decide)
  have F9_number : Fld Z h9 b9 "com/example/tight_bound/tightbound/HeapObject" "number" "I" (.int 0) := D9 (Or.inr (W hw 45 rfl)) (ty := .int) (by decide)
  obtain ⟨_, T10, L10, X10, hQ10, st10⟩ := cI X9 hx hZ hown (W hw 33 rfl) (W hw 34 rfl) (W hw 35 rfl) (W hw 32 rfl) rfl (by decide) (rm7 l Z a0 hw [] b9 a8 p3 h9 n0 O9 A9 F9_className g_b9 F9_number) e9 #[vi p1, vi p2, vi p3, vi p4, vi p5, vi p6, vi p7, vr a8, .unset, .unset, .unset, .unset, .unset, .unset] [(.ref b9)] (by rw [hml]; rfl) (hb hby at_142) pd_6 rfl (W := 1) (Nat.le_of_eq rfl) (Nat.le_trans (by decide) hrf) (Nat.le_trans (by decide) hrl) (Nat.le_trans (by omega) hrc : cells + 1 + 0 ≤ R.cells) (Nat.le_trans (by omega) hrs : slots + 2 + 0 ≤ R.slots)
  obtain ⟨rfl, Nq10, K10, P10_0, P10_1, P10_2⟩ := hQ10
  have N10 := Fr.app N0 Nq10
  have KK10 := Keep.trans (h := h9) K9 K10 (allS (Or.inr sz_b9) all0)
  have O10 := O9.keep K10 (allS g_b9 all0)
  have f32 := ((E_14.ext E9).keep K10)
  have f33 := ((F_16.ext E9).keep K10 (ninS (own_ltn E_14.lt sz_b9) nin0))
  have f34 := ((V_20.ext E9).keep K10 (ninS (own_ltn V_20.lt sz_b9) nin0))
  have f35 := ((F_21.ext E9).keep K10 (ninS (own_ltn E_14.lt sz_b9) nin0))
  obtain ⟨_, T36, L36, X36, hQ36, st36⟩ := cV X10 hx hZ hown (W hw 46 rfl) (W hw 47 rfl) (notFace_of_selects (args := #[]) (mvT hZ (W hw 49 rfl))) (W hw 49 rfl) (W hw 48 rfl) (W hw 50 rfl) (W hw 32 rfl) (by decide) (rm9 l Z a0 hw [] b9 p11 a8 a15 k17 p18 k19 p3 T10.heap n0 O10 S_12 hc13 P10_1 f32 f33 f34 f35 hc22 hc23 hc24 P10_2 hc25 T_26 hc27 hc28 hc29 hc30 hc31) rfl P10_0 #[vi p1, vi p2, vi p3, vi p4, vi p5, vi p6, vi p7, vr a8, .unset, .unset, .unset, .unset, .unset, .unset] [] (by rw [hml]; rfl) (hb hby at_145) pd_29 rfl (W := 0) (Nat.le_of_eq rfl) (Nat.le_trans (by decide) hrf) (Nat.le_trans (by decide) hrl) (Nat.le_trans (by omega) hrc : cells + 1 + 0 + 4 ≤ R.cells) (Nat.le_trans (by omega) hrs : slots + 2 + 0 + 40 ≤ R.slots)
  obtain ⟨b37, b38, k39, rfl, Nq36, K36, sq36_b37, sq36_b38, P36_0, P36_1, P36_2, P36_3, P36_4, P36_5⟩ := hQ36
  have N36 := Fr.app N10 Nq36
  have sz_b37 := Nat.le_trans KK10.1 sq36_b37
  have sz_b38 := Nat.le_trans KK10.1 sq36_b38
  have KK36 := Keep.trans (h := T10.heap) KK10 K36 all0
  have O36 := O10.keep K36 all0
  obtain ⟨_, T46, L46, X46, hQ46, st46⟩ := cS X36 hx hZ hown (W hw 179 rfl) (W hw 180 rfl) (W hw 176 rfl) (W hw 181 rfl) (by decide) (rm35 l Z a0 hw [] (p3.toInt64) T36.heap n0 O36 ) rfl #[vi p1, vi p2, vi p3, vi p4, vi p5, vi p6, vi p7, vr a8, vr b37, .unset, .unset, .unset, .unset, .unset] [] (by rw [hml]; rfl) (hb hby at_152) pd_30 rfl (W := 0) (Nat.le_of_eq rfl) (Nat.le_trans (by decide) hrf) (Nat.le_trans (by decide) hrl) (Nat.le_trans (by omega) hrc : cells + 1 + 0 + 4 + 0 ≤ R.cells) (Nat.le_trans (by omega) hrs : slots + 2 + 0 + 40 + 0 ≤ R.slots)
  obtain ⟨rfl, Nq46, e46⟩ := hQ46
  have N46 := Fr.app N36 Nq46
  refine ⟨T46, _, X46.more (show cells + 1 + 0 + 4 + 0 ≤ cells + 5 by omega) (show slots + 2 + 0 + 40 + 0 ≤ slots + 42 by omega), N46, ?_⟩
  rw [e46]
  refine ⟨b37, b38, k39, KK36, sz_b37, sz_b38, P36_0, P36_1, P36_2, P36_3, P36_4, P36_5, fun t kt => ?_⟩
  show Steps p.tables e below (T0.setTop (mkF m 135 #[vi p1, vi p2, vi p3, vi p4, vi p5, vi p6, vi p7, vr a8, .unset, .unset, .unset, .unset, .unset, .unset] [])) _
  refine st9 _ ?_
  refine XS.dup X9.here hx rfl (hb hby at_138) rfl rfl ?_
  refine XS.aload X9.here hx rfl (hb hby at_139) rfl rfl ?_
  refine XS.iloadN X9.here hx rfl (hb hby at_141) rfl ?_
  refine st10 _ ?_
  refine st36 _ ?_
  refine XS.astore X36.here hx rfl (hb hby at_148) rfl rfl (l' := #[vi p1, vi p2, vi p3, vi p4, vi p5, vi p6, vi p7, vr a8, vr b37, .unset, .unset, .unset, .unset, .unset]) rfl ?_
  refine XS.iloadN X36.here hx rfl (hb hby at_150) rfl ?_
  refine XS.i2l X36.here hx rfl (hb hby at_151) rfl ?_
  refine st46 _ ?_
  show Steps p.tables e below (T46.setTop (mkF m 155 #[vi p1, vi p2, vi p3, vi p4, vi p5, vi p6, vi p7, vr a8, vr b37, .unset, .unset, .unset, .unset, .unset] [(.long (own_absJ (p3.toInt64)))])) _
  refine XS.lstore X46.here hx rfl (hb hby at_155) rfl (l' := #[vi p1, vi p2, vi p3, vi p4, vi p5, vi p6, vi p7, vr a8, vr b37, .val (.long (own_absJ (p3.toInt64))), .second, .unset, .unset, .unset]) rfl ?_
  exact kt
theorem d36_0 : decode method_3_code 0 = .ok (.lload_n 0, 1) := by decide +kernel
theorem d36_1 : decode method_3_code 1 = .ok (.ldc2_w 41, 3) := by decide +kernel
theorem d36_4 : decode method_3_code 4 = .ok (.lcmp, 1) := by decide +kernel
theorem d36_5 : decode method_3_code 5 = .ok (.ifCond .ge 5, 3) := by decide +kernel
theorem d36_8 : decode method_3_code 8 = .ok (.iconst 1, 1) := by decide +kernel
theorem d36_9 : decode method_3_code 9 = .ok (.ireturn, 1) := by decide +kernel
theorem d36_10 : decode method_3_code 10 = .ok (.lload_n 0, 1) := by decide +kernel
theorem d36_11 : decode method_3_code 11 = .ok (.ldc2_w 43, 3) := by decide +kernel
theorem d36_14 : decode method_3_code 14 = .ok (.lcmp, 1) := by decide +kernel
theorem d36_15 : decode method_3_code 15 = .ok (.ifCond .ge 5, 3) := by decide +kernel
theorem d36_18 : decode method_3_code 18 = .ok (.iconst 2, 1) := by decide +kernel
theorem d36_19 : decode method_3_code 19 = .ok (.ireturn, 1) := by decide +kernel
theorem d36_20 : decode method_3_code 20 = .ok (.lload_n 0, 1) := by decide +kernel
theorem d36_21 : decode method_3_code 21 = .ok (.ldc2_w 45, 3) := by decide +kernel
theorem d36_24 : decode method_3_code 24 = .ok (.lcmp, 1) := by decide +kernel
theorem d36_25 : decode method_3_code 25 = .ok (.ifCond .ge 5, 3) := by decide +kernel
theorem d36_28 : decode method_3_code 28 = .ok (.iconst 3, 1) := by decide +kernel
theorem d36_29 : decode method_3_code 29 = .ok (.ireturn, 1) := by decide +kernel
theorem d36_30 : decode method_3_code 30 = .ok (.lload_n 0, 1) := by decide +kernel
theorem d36_31 : decode method_3_code 31 = .ok (.ldc2_w 47, 3) := by decide +kernel
theorem d36_34 : decode method_3_code 34 = .ok (.lcmp, 1) := by decide +kernel
theorem d36_35 : decode method_3_code 35 = .ok (.ifCond .ge 5, 3) := by decide +kernel
theorem d36_38 : decode method_3_code 38 = .ok (.iconst 4, 1) := by decide +kernel
theorem d36_39 : decode method_3_code 39 = .ok (.ireturn, 1) := by decide +kernel
theorem d36_40 : decode method_3_code 40 = .ok (.lload_n 0, 1) := by decide +kernel
theorem d36_41 : decode method_3_code 41 = .ok (.ldc2_w 49, 3) := by decide +kernel
theorem d36_44 : decode method_3_code 44 = .ok (.lcmp, 1) := by decide +kernel
theorem d36_45 : decode method_3_code 45 = .ok (.ifCond .ge 5, 3) := by decide +kernel
theorem d36_48 : decode method_3_code 48 = .ok (.iconst 5, 1) := by decide +kernel
theorem d36_49 : decode method_3_code 49 = .ok (.ireturn, 1) := by decide +kernel
theorem d36_50 : decode method_3_code 50 = .ok (.lload_n 0, 1) := by decide +kernel
theorem d36_51 : decode method_3_code 51 = .ok (.ldc2_w 51, 3) := by decide +kernel
theorem d36_54 : decode method_3_code 54 = .ok (.lcmp, 1) := by decide +kernel
theorem d36_55 : decode method_3_code 55 = .ok (.ifCond .ge 6, 3) := by decide +kernel
theorem d36_58 : decode method_3_code 58 = .ok (.bipush 6, 2) := by decide +kernel
theorem d36_60 : decode method_3_code 60 = .ok (.ireturn, 1) := by decide +kernel
theorem d36_61 : decode method_3_code 61 = .ok (.lload_n 0, 1) := by decide +kernel
theorem d36_62 : decode method_3_code 62 = .ok (.ldc2_w 53, 3) := by decide +kernel
theorem d36_65 : decode method_3_code 65 = .ok (.lcmp, 1) := by decide +kernel
theorem d36_66 : decode method_3_code 66 = .ok (.ifCond .ge 6, 3) := by decide +kernel
theorem d36_69 : decode method_3_code 69 = .ok (.bipush 7, 2) := by decide +kernel
theorem d36_71 : decode method_3_code 71 = .ok (.ireturn, 1) := by decide +kernel
theorem d36_72 : decode method_3_code 72 = .ok (.lload_n 0, 1) := by decide +kernel
theorem d36_73 : decode method_3_code 73 = .ok (.ldc2_w 55, 3) := by decide +kernel
theorem d36_76 : decode method_3_code 76 = .ok (.lcmp, 1) := by decide +kernel
theorem d36_77 : decode method_3_code 77 = .ok (.ifCond .ge 6, 3) := by decide +kernel
theorem d36_80 : decode method_3_code 80 = .ok (.bipush 8, 2) := by decide +kernel
theorem d36_82 : decode method_3_code 82 = .ok (.ireturn, 1) := by decide +kernel
theorem d36_83 : decode method_3_code 83 = .ok (.lload_n 0, 1) := by decide +kernel
theorem d36_84 : decode method_3_code 84 = .ok (.ldc2_w 57, 3) := by decide +kernel
theorem d36_87 : decode method_3_code 87 = .ok (.lcmp, 1) := by decide +kernel
theorem d36_88 : decode method_3_code 88 = .ok (.ifCond .ge 6, 3) := by decide +kernel
theorem d36_91 : decode method_3_code 91 = .ok (.bipush 9, 2) := by decide +kernel
theorem d36_93 : decode method_3_code 93 = .ok (.ireturn, 1) := by decide +kernel
theorem d36_94 : decode method_3_code 94 = .ok (.bipush 10, 2) := by decide +kernel
theorem d36_96 : decode method_3_code 96 = .ok (.ireturn, 1) := by decide +kernel
theorem ef_36_J (m : MethodId) (x0 : Int64) : entryFrame m #[(.long x0)] 2 = mkF m 0 #[.val (.long x0), .second] [] := by first | (simp [entryFrame, mkF, argsToLocals, Value.category]; done) | rfl
theorem pn_31 : plainName "com/example/tight_bound/tightbound/HeapObjectToStringPinLaw" = true := by first | (simp [plainName, overriddenIn]; done) | decide +kernel
def Qrm36 (Z : State) (q1 : Int64) (h0 : Heap) (n0 : Nat) (v : Option Value) (h : Heap) (L : List Loc) : Prop := v = some (.int (own_digs q1)) ∧ Fr n0 L ∧ h = h0
set_option maxRecDepth 65536 in
set_option maxHeartbeats 40000000 in
theorem rm36 (l : Launch) (Z : State) (a0 : Array Value) (hw : ∀ d ∈ tables_1, d.before a0 Z = true) (ws : List Jvm.Cond) (q1 : Int64) (h0 : Heap) (n0 : Nat) (O0 : Old Z n0 h0) :
    MF l Z h0 (⟨"com/example/tight_bound/tightbound/HeapObjectToStringPinLaw", "digits", "(J)I"⟩ : MethodName) method_3_code 2 (some .int) ws (⟨0, 0, 0, 0⟩ : Room) #[(.long q1)] (Qrm36 Z q1 h0 n0) := by
  refine MetFree.of_bodySF (plainFor_of_name pn_31) hisR ?_
  intro p e s m args below meth c s₁ Bd hml0 hP hK
  obtain ⟨rfl, hZ, hh⟩ := hP
  have hx := Bd.exec
  have hby := Bd.bytes
  have hown : s.vm.findClass "com/example/tight_bound/tightbound/HeapObjectToStringPinLaw" = some m.cls := findClass_of_methodNamed Bd.named
  have X0 : Stand p l e (⟨0, 0, 0, 0⟩ : Room) s m #[(.long q1)] below meth c s₁ [] 0 0 := Stand.of_body Bd
  have e0 : s₁.heap = h0 := by rw [← hh, Bd.state]; rfl
  have N0 := Fr.nil n0
  have pre0 : ∀ t, Steps p.tables e below (s₁.setTop (mkF m 0 #[.val (.long q1), .second] [])) t → Steps p.tables e below (s₁.setTop (entryFrame m #[(.long q1)] 2)) t := fun t k => castTop (ef_36_J m q1) k
  have pre2 : ∀ t, Steps p.tables e below (s₁.setTop (mkF m 5 #[.val (.long q1), .second] [(.int (lcmpW q1 (10 : Int64)))])) t → Steps p.tables e below (s₁.setTop (entryFrame m #[(.long q1)] 2)) t := fun t kt => pre0 t (by
    show Steps p.tables e below (s₁.setTop (mkF m 0 #[.val (.long q1), .second] [])) _
    refine XS.lloadN X0.here hx rfl (hb hby d36_0) rfl ?_
    refine X0.ldc2Long hx hown (mvT hZ (W hw 186 rfl)) (g := (mkF m 1 #[.val (.long q1), .second] [(.long q1)])) rfl (hb hby d36_1) _ ?_
    refine XS.lcmp X0.here hx rfl (hb hby d36_4) rfl ?_
    exact kt)
  by_cases hc1 : (lcmpW q1 (10 : Int64)) < (0 : Int32)
  · obtain ⟨fs, hr, hrun, hended, hW, hsame⟩ := X0.leave (v := some (.int 1)) (fun h => by rw [Bd.returns] at h; cases h)
    refine ⟨_, _, pre2 _ ?_, hrun, hended, _, _, rfl, ?_, ⟨_, rfl⟩, hW, hsame.mono (by decide) (by decide)⟩
    · show Steps p.tables e below (s₁.setTop (mkF m 5 #[.val (.long q1), .second] [(.int (lcmpW q1 (10 : Int64)))])) _
      refine XS.ifNo X0.here hx rfl (hb hby d36_5) rfl ((if0 _ _).trans (tlt (hc1 : (lcmpW q1 (10 : Int64)) < (0 : Int32))).2.1) ?_
      refine XS.iconst X0.here hx rfl (hb hby d36_8) ?_
      exact retI X0 hx Bd.returns (hb hby d36_9) hr
    · show Qrm36 Z q1 h0 n0 _ s₁.heap _
      rw [e0]
      exact ⟨(by rw [own_digs, if_pos hc1]), N0, rfl⟩
  · have pre3 : ∀ t, Steps p.tables e below (s₁.setTop (mkF m 15 #[.val (.long q1), .second] [(.int (lcmpW q1 (100 : Int64)))])) t → Steps p.tables e below (s₁.setTop (entryFrame m #[(.long q1)] 2)) t := fun t kt => pre2 t (by
      show Steps p.tables e below (s₁.setTop (mkF m 5 #[.val (.long q1), .second] [(.int (lcmpW q1 (10 : Int64)))])) _
      refine XS.ifYes X0.here hx rfl (pc0 := 5) (pc' := 10) rfl (hb hby d36_5) rfl ((if0 _ _).trans (flt (hc1 : ¬ ((lcmpW q1 (10 : Int64)) < (0 : Int32)))).2.1) (by decide) (by decide) ?_
      refine XS.lloadN X0.here hx rfl (hb hby d36_10) rfl ?_
      refine X0.ldc2Long hx hown (mvT hZ (W hw 220 rfl)) (g := (mkF m 11 #[.val (.long q1), .second] [(.long q1)])) rfl (hb hby d36_11) _ ?_
      refine XS.lcmp X0.here hx rfl (hb hby d36_14) rfl ?_
      exact kt)
    by_cases hc2 : (lcmpW q1 (100 : Int64)) < (0 : Int32)
    · obtain ⟨fs, hr, hrun, hended, hW, hsame⟩ := X0.leave (v := some (.int 2)) (fun h => by rw [Bd.returns] at h; cases h)
      refine ⟨_, _, pre3 _ ?_, hrun, hended, _, _, rfl, ?_, ⟨_, rfl⟩, hW, hsame.mono (by decide) (by decide)⟩
      · show Steps p.tables e below (s₁.setTop (mkF m 15 #[.val (.long q1), .second] [(.int (lcmpW q1 (100 : Int64)))])) _
        refine XS.ifNo X0.here hx rfl (hb hby d36_15) rfl ((if0 _ _).trans (tlt (hc2 : (lcmpW q1 (100 : Int64)) < (0 : Int32))).2.1) ?_
        refine XS.iconst X0.here hx rfl (hb hby d36_18) ?_
        exact retI X0 hx Bd.returns (hb hby d36_19) hr
      · show Qrm36 Z q1 h0 n0 _ s₁.heap _
        rw [e0]
        exact ⟨(by rw [own_digs, if_neg hc1, if_pos hc2]), N0, rfl⟩
    · have pre4 : ∀ t, Steps p.tables e below (s₁.setTop (mkF m 25 #[.val (.long q1), .second] [(.int (lcmpW q1 (1000 : Int64)))])) t → Steps p.tables e below (s₁.setTop (entryFrame m #[(.long q1)] 2)) t := fun t kt => pre3 t (by
        show Steps p.tables e below (s₁.setTop (mkF m 15 #[.val (.long q1), .second] [(.int (lcmpW q1 (100 : Int64)))])) _
        refine XS.ifYes X0.here hx rfl (pc0 := 15) (pc' := 20) rfl (hb hby d36_15) rfl ((if0 _ _).trans (flt (hc2 : ¬ ((lcmpW q1 (100 : Int64)) < (0 : Int32)))).2.1) (by decide) (by decide) ?_
        refine XS.lloadN X0.here hx rfl (hb hby d36_20) rfl ?_
        refine X0.ldc2Long hx hown (mvT hZ (W hw 221 rfl)) (g := (mkF m 21 #[.val (.long q1), .second] [(.long q1)])) rfl (hb hby d36_21) _ ?_
        refine XS.lcmp X0.here hx rfl (hb hby d36_24) rfl ?_
        exact kt)
      by_cases hc3 : (lcmpW q1 (1000 : Int64)) < (0 : Int32)
      · obtain ⟨fs, hr, hrun, hended, hW, hsame⟩ := X0.leave (v := some (.int 3)) (fun h => by rw [Bd.returns] at h; cases h)
        refine ⟨_, _, pre4 _ ?_, hrun, hended, _, _, rfl, ?_, ⟨_, rfl⟩, hW, hsame.mono (by decide) (by decide)⟩
        · show Steps p.tables e below (s₁.setTop (mkF m 25 #[.val (.long q1), .second] [(.int (lcmpW q1 (1000 : Int64)))])) _
          refine XS.ifNo X0.here hx rfl (hb hby d36_25) rfl ((if0 _ _).trans (tlt (hc3 : (lcmpW q1 (1000 : Int64)) < (0 : Int32))).2.1) ?_
          refine XS.iconst X0.here hx rfl (hb hby d36_28) ?_
          exact retI X0 hx Bd.returns (hb hby d36_29) hr
        · show Qrm36 Z q1 h0 n0 _ s₁.heap _
          rw [e0]
          exact ⟨(by rw [own_digs, if_neg hc1, if_neg hc2, if_pos hc3]), N0, rfl⟩
      · have pre5 : ∀ t, Steps p.tables e below (s₁.setTop (mkF m 35 #[.val (.long q1), .second] [(.int (lcmpW q1 (10000 : Int64)))])) t → Steps p.tables e below (s₁.setTop (entryFrame m #[(.long q1)] 2)) t := fun t kt => pre4 t (by
          show Steps p.tables e below (s₁.setTop (mkF m 25 #[.val (.long q1), .second] [(.int (lcmpW q1 (1000 : Int64)))])) _
          refine XS.ifYes X0.here hx rfl (pc0 := 25) (pc' := 30) rfl (hb hby d36_25) rfl ((if0 _ _).trans (flt (hc3 : ¬ ((lcmpW q1 (1000 : Int64)) < (0 : Int32)))).2.1) (by decide) (by decide) ?_
          refine XS.lloadN X0.here hx rfl (hb hby d36_30) rfl ?_
          refine X0.ldc2Long hx hown (mvT hZ (W hw 222 rfl)) (g := (mkF m 31 #[.val (.long q1), .second] [(.long q1)])) rfl (hb hby d36_31) _ ?_
          refine XS.lcmp X0.here hx rfl (hb hby d36_34) rfl ?_
          exact kt)
        by_cases hc4 : (lcmpW q1 (10000 : Int64)) < (0 : Int32)
        · obtain ⟨fs, hr, hrun, hended, hW, hsame⟩ := X0.leave (v := some (.int 4)) (fun h => by rw [Bd.returns] at h; cases h)
          refine ⟨_, _, pre5 _ ?_, hrun, hended, _, _, rfl, ?_, ⟨_, rfl⟩, hW, hsame.mono (by decide) (by decide)⟩
          · show Steps p.tables e below (s₁.setTop (mkF m 35 #[.val (.long q1), .second] [(.int (lcmpW q1 (10000 : Int64)))])) _
            refine XS.ifNo X0.here hx rfl (hb hby d36_35) rfl ((if0 _ _).trans (tlt (hc4 : (lcmpW q1 (10000 : Int64)) < (0 : Int32))).2.1) ?_
            refine XS.iconst X0.here hx rfl (hb hby d36_38) ?_
            exact retI X0 hx Bd.returns (hb hby d36_39) hr
          · show Qrm36 Z q1 h0 n0 _ s₁.heap _
            rw [e0]
            exact ⟨(by rw [own_digs, if_neg hc1, if_neg hc2, if_neg hc3, if_pos hc4]), N0, rfl⟩
        · have pre6 : ∀ t, Steps p.tables e below (s₁.setTop (mkF m 45 #[.val (.long q1), .second] [(.int (lcmpW q1 (100000 : Int64)))])) t → Steps p.tables e below (s₁.setTop (entryFrame m #[(.long q1)] 2)) t := fun t kt => pre5 t (by
            show Steps p.tables e below (s₁.setTop (mkF m 35 #[.val (.long q1), .second] [(.int (lcmpW q1 (10000 : Int64)))])) _
            refine XS.ifYes X0.here hx rfl (pc0 := 35) (pc' := 40) rfl (hb hby d36_35) rfl ((if0 _ _).trans (flt (hc4 : ¬ ((lcmpW q1 (10000 : Int64)) < (0 : Int32)))).2.1) (by decide) (by decide) ?_
            refine XS.lloadN X0.here hx rfl (hb hby d36_40) rfl ?_
            refine X0.ldc2Long hx hown (mvT hZ (W hw 223 rfl)) (g := (mkF m 41 #[.val (.long q1), .second] [(.long q1)])) rfl (hb hby d36_41) _ ?_
            refine XS.lcmp X0.here hx rfl (hb hby d36_44) rfl ?_
            exact kt)
          by_cases hc5 : (lcmpW q1 (100000 : Int64)) < (0 : Int32)
          · obtain ⟨fs, hr, hrun, hended, hW, hsame⟩ := X0.leave (v := some (.int 5)) (fun h => by rw [Bd.returns] at h; cases h)
            refine ⟨_, _, pre6 _ ?_, hrun, hended, _, _, rfl, ?_, ⟨_, rfl⟩, hW, hsame.mono (by decide) (by decide)⟩
            · show Steps p.tables e below (s₁.setTop (mkF m 45 #[.val (.long q1), .second] [(.int (lcmpW q1 (100000 : Int64)))])) _
              refine XS.ifNo X0.here hx rfl (hb hby d36_45) rfl ((if0 _ _).trans (tlt (hc5 : (lcmpW q1 (100000 : Int64)) < (0 : Int32))).2.1) ?_
              refine XS.iconst X0.here hx rfl (hb hby d36_48) ?_
              exact retI X0 hx Bd.returns (hb hby d36_49) hr
            · show Qrm36 Z q1 h0 n0 _ s₁.heap _
              rw [e0]
              exact ⟨(by rw [own_digs, if_neg hc1, if_neg hc2, if_neg hc3, if_neg hc4, if_pos hc5]), N0, rfl⟩
          · have pre7 : ∀ t, Steps p.tables e below (s₁.setTop (mkF m 55 #[.val (.long q1), .second] [(.int (lcmpW q1 (1000000 : Int64)))])) t → Steps p.tables e below (s₁.setTop (entryFrame m #[(.long q1)] 2)) t := fun t kt => pre6 t (by
              show Steps p.tables e below (s₁.setTop (mkF m 45 #[.val (.long q1), .second] [(.int (lcmpW q1 (100000 : Int64)))])) _
              refine XS.ifYes X0.here hx rfl (pc0 := 45) (pc' := 50) rfl (hb hby d36_45) rfl ((if0 _ _).trans (flt (hc5 : ¬ ((lcmpW q1 (100000 : Int64)) < (0 : Int32)))).2.1) (by decide) (by decide) ?_
              refine XS.lloadN X0.here hx rfl (hb hby d36_50) rfl ?_
              refine X0.ldc2Long hx hown (mvT hZ (W hw 224 rfl)) (g := (mkF m 51 #[.val (.long q1), .second] [(.long q1)])) rfl (hb hby d36_51) _ ?_
              refine XS.lcmp X0.here hx rfl (hb hby d36_54) rfl ?_
              exact kt)
            by_cases hc6 : (lcmpW q1 (1000000 : Int64)) < (0 : Int32)
            · obtain ⟨fs, hr, hrun, hended, hW, hsame⟩ := X0.leave (v := some (.int 6)) (fun h => by rw [Bd.returns] at h; cases h)
              refine ⟨_, _, pre7 _ ?_, hrun, hended, _, _, rfl, ?_, ⟨_, rfl⟩, hW, hsame.mono (by decide) (by decide)⟩
              · show Steps p.tables e below (s₁.setTop (mkF m 55 #[.val (.long q1), .second] [(.int (lcmpW q1 (1000000 : Int64)))])) _
                refine XS.ifNo X0.here hx rfl (hb hby d36_55) rfl ((if0 _ _).trans (tlt (hc6 : (lcmpW q1 (1000000 : Int64)) < (0 : Int32))).2.1) ?_
                refine XS.bipush X0.here hx rfl (hb hby d36_58) ?_
                exact retI X0 hx Bd.returns (hb hby d36_60) hr
              · show Qrm36 Z q1 h0 n0 _ s₁.heap _
                rw [e0]
                exact ⟨(by rw [own_digs, if_neg hc1, if_neg hc2, if_neg hc3, if_neg hc4, if_neg hc5, if_pos hc6]), N0, rfl⟩
            · have pre8 : ∀ t, Steps p.tables e below (s₁.setTop (mkF m 66 #[.val (.long q1), .second] [(.int (lcmpW q1 (10000000 : Int64)))])) t → Steps p.tables e below (s₁.setTop (entryFrame m #[(.long q1)] 2)) t := fun t kt => pre7 t (by
                show Steps p.tables e below (s₁.setTop (mkF m 55 #[.val (.long q1), .second] [(.int (lcmpW q1 (1000000 : Int64)))])) _
                refine XS.ifYes X0.here hx rfl (pc0 := 55) (pc' := 61) rfl (hb hby d36_55) rfl ((if0 _ _).trans (flt (hc6 : ¬ ((lcmpW q1 (1000000 : Int64)) < (0 : Int32)))).2.1) (by decide) (by decide) ?_
                refine XS.lloadN X0.here hx rfl (hb hby d36_61) rfl ?_
                refine X0.ldc2Long hx hown (mvT hZ (W hw 225 rfl)) (g := (mkF m 62 #[.val (.long q1), .second] [(.long q1)])) rfl (hb hby d36_62) _ ?_
                refine XS.lcmp X0.here hx rfl (hb hby d36_65) rfl ?_
                exact kt)
              by_cases hc7 : (lcmpW q1 (10000000 : Int64)) < (0 : Int32)
              · obtain ⟨fs, hr, hrun, hended, hW, hsame⟩ := X0.leave (v := some (.int 7)) (fun h => by rw [Bd.returns] at h; cases h)
                refine ⟨_, _, pre8 _ ?_, hrun, hended, _, _, rfl, ?_, ⟨_, rfl⟩, hW, hsame.mono (by decide) (by decide)⟩
                · show Steps p.tables e below (s₁.setTop (mkF m 66 #[.val (.long q1), .second] [(.int (lcmpW q1 (10000000 : Int64)))])) _
                  refine XS.ifNo X0.here hx rfl (hb hby d36_66) rfl ((if0 _ _).trans (tlt (hc7 : (lcmpW q1 (10000000 : Int64)) < (0 : Int32))).2.1) ?_
                  refine XS.bipush X0.here hx rfl (hb hby d36_69) ?_
                  exact retI X0 hx Bd.returns (hb hby d36_71) hr
                · show Qrm36 Z q1 h0 n0 _ s₁.heap _
                  rw [e0]
                  exact ⟨(by rw [own_digs, if_neg hc1, if_neg hc2, if_neg hc3, if_neg hc4, if_neg hc5, if_neg hc6, if_pos hc7]), N0, rfl⟩
              · have pre9 : ∀ t, Steps p.tables e below (s₁.setTop (mkF m 77 #[.val (.long q1), .second] [(.int (lcmpW q1 (100000000 : Int64)))])) t → Steps p.tables e below (s₁.setTop (entryFrame m #[(.long q1)] 2)) t := fun t kt => pre8 t (by
                  show Steps p.tables e below (s₁.setTop (mkF m 66 #[.val (.long q1), .second] [(.int (lcmpW q1 (10000000 : Int64)))])) _
                  refine XS.ifYes X0.here hx rfl (pc0 := 66) (pc' := 72) rfl (hb hby d36_66) rfl ((if0 _ _).trans (flt (hc7 : ¬ ((lcmpW q1 (10000000 : Int64)) < (0 : Int32)))).2.1) (by decide) (by decide) ?_
                  refine XS.lloadN X0.here hx rfl (hb hby d36_72) rfl ?_
                  refine X0.ldc2Long hx hown (mvT hZ (W hw 226 rfl)) (g := (mkF m 73 #[.val (.long q1), .second] [(.long q1)])) rfl (hb hby d36_73) _ ?_
                  refine XS.lcmp X0.here hx rfl (hb hby d36_76) rfl ?_
                  exact kt)
                by_cases hc8 : (lcmpW q1 (100000000 : Int64)) < (0 : Int32)
                · obtain ⟨fs, hr, hrun, hended, hW, hsame⟩ := X0.leave (v := some (.int 8)) (fun h => by rw [Bd.returns] at h; cases h)
                  refine ⟨_, _, pre9 _ ?_, hrun, hended, _, _, rfl, ?_, ⟨_, rfl⟩, hW, hsame.mono (by decide) (by decide)⟩
                  · show Steps p.tables e below (s₁.setTop (mkF m 77 #[.val (.long q1), .second] [(.int (lcmpW q1 (100000000 : Int64)))])) _
                    refine XS.ifNo X0.here hx rfl (hb hby d36_77) rfl ((if0 _ _).trans (tlt (hc8 : (lcmpW q1 (100000000 : Int64)) < (0 : Int32))).2.1) ?_
                    refine XS.bipush X0.here hx rfl (hb hby d36_80) ?_
                    exact retI X0 hx Bd.returns (hb hby d36_82) hr
                  · show Qrm36 Z q1 h0 n0 _ s₁.heap _
                    rw [e0]
                    exact ⟨(by rw [own_digs, if_neg hc1, if_neg hc2, if_neg hc3, if_neg hc4, if_neg hc5, if_neg hc6, if_neg hc7, if_pos hc8]), N0, rfl⟩
                · have pre10 : ∀ t, Steps p.tables e below (s₁.setTop (mkF m 88 #[.val (.long q1), .second] [(.int (lcmpW q1 (1000000000 : Int64)))])) t → Steps p.tables e below (s₁.setTop (entryFrame m #[(.long q1)] 2)) t := fun t kt => pre9 t (by
                    show Steps p.tables e below (s₁.setTop (mkF m 77 #[.val (.long q1), .second] [(.int (lcmpW q1 (100000000 : Int64)))])) _
                    refine XS.ifYes X0.here hx rfl (pc0 := 77) (pc' := 83) rfl (hb hby d36_77) rfl ((if0 _ _).trans (flt (hc8 : ¬ ((lcmpW q1 (100000000 : Int64)) < (0 : Int32)))).2.1) (by decide) (by decide) ?_
                    refine XS.lloadN X0.here hx rfl (hb hby d36_83) rfl ?_
                    refine X0.ldc2Long hx hown (mvT hZ (W hw 227 rfl)) (g := (mkF m 84 #[.val (.long q1), .second] [(.long q1)])) rfl (hb hby d36_84) _ ?_
                    refine XS.lcmp X0.here hx rfl (hb hby d36_87) rfl ?_
                    exact kt)
                  by_cases hc9 : (lcmpW q1 (1000000000 : Int64)) < (0 : Int32)
                  · obtain ⟨fs, hr, hrun, hended, hW, hsame⟩ := X0.leave (v := some (.int 9)) (fun h => by rw [Bd.returns] at h; cases h)
                    refine ⟨_, _, pre10 _ ?_, hrun, hended, _, _, rfl, ?_, ⟨_, rfl⟩, hW, hsame.mono (by decide) (by decide)⟩
                    · show Steps p.tables e below (s₁.setTop (mkF m 88 #[.val (.long q1), .second] [(.int (lcmpW q1 (1000000000 : Int64)))])) _
                      refine XS.ifNo X0.here hx rfl (hb hby d36_88) rfl ((if0 _ _).trans (tlt (hc9 : (lcmpW q1 (1000000000 : Int64)) < (0 : Int32))).2.1) ?_
                      refine XS.bipush X0.here hx rfl (hb hby d36_91) ?_
                      exact retI X0 hx Bd.returns (hb hby d36_93) hr
                    · show Qrm36 Z q1 h0 n0 _ s₁.heap _
                      rw [e0]
                      exact ⟨(by rw [own_digs, if_neg hc1, if_neg hc2, if_neg hc3, if_neg hc4, if_neg hc5, if_neg hc6, if_neg hc7, if_neg hc8, if_pos hc9]), N0, rfl⟩
                  · obtain ⟨fs, hr, hrun, hended, hW, hsame⟩ := X0.leave (v := some (.int 10)) (fun h => by rw [Bd.returns] at h; cases h)
                    refine ⟨_, _, pre10 _ ?_, hrun, hended, _, _, rfl, ?_, ⟨_, rfl⟩, hW, hsame.mono (by decide) (by decide)⟩
                    · show Steps p.tables e below (s₁.setTop (mkF m 88 #[.val (.long q1), .second] [(.int (lcmpW q1 (1000000000 : Int64)))])) _
                      refine XS.ifYes X0.here hx rfl (pc0 := 88) (pc' := 94) rfl (hb hby d36_88) rfl ((if0 _ _).trans (flt (hc9 : ¬ ((lcmpW q1 (1000000000 : Int64)) < (0 : Int32)))).2.1) (by decide) (by decide) ?_
                      refine XS.bipush X0.here hx rfl (hb hby d36_94) ?_
                      exact retI X0 hx Bd.returns (hb hby d36_96) hr
                    · show Qrm36 Z q1 h0 n0 _ s₁.heap _
                      rw [e0]
                      exact ⟨(by rw [own_digs, if_neg hc1, if_neg hc2, if_neg hc3, if_neg hc4, if_neg hc5, if_neg hc6, if_neg hc7, if_neg hc8, if_neg hc9]), N0, rfl⟩
theorem pd_32 : parseMethodDescriptor "(J)I" = some ⟨[.long], some .int⟩ := by decide +kernel
theorem d37_0 : decode method_6_code 0 = .ok (.iload_n 1, 1) := by decide +kernel
theorem d37_1 : decode method_6_code 1 = .ok (.aload_n 0, 1) := by decide +kernel
theorem d37_2 : decode method_6_code 2 = .ok (.invokevirtual 33, 3) := by decide +kernel
theorem d37_5 : decode method_6_code 5 = .ok (.if_icmp .lt 5, 3) := by decide +kernel
theorem d37_8 : decode method_6_code 8 = .ok (.iconst 1, 1) := by decide +kernel
theorem d37_9 : decode method_6_code 9 = .ok (.ireturn, 1) := by decide +kernel
theorem d37_10 : decode method_6_code 10 = .ok (.aload_n 0, 1) := by decide +kernel
theorem d37_11 : decode method_6_code 11 = .ok (.iload_n 1, 1) := by decide +kernel
theorem d37_12 : decode method_6_code 12 = .ok (.invokevirtual 65, 3) := by decide +kernel
theorem d38_0 : decode jdk_42_method_56_code 0 = .ok (.aload_n 0, 1) := by decide +kernel
theorem d38_1 : decode jdk_42_method_56_code 1 = .ok (.invokevirtual 492, 3) := by decide +kernel
theorem d39_0 : decode jdk_42_method_154_code 0 = .ok (.getstatic 38, 3) := by decide +kernel
theorem d39_3 : decode jdk_42_method_154_code 3 = .ok (.ifCond .eq 14, 3) := by decide +kernel
theorem d39_6 : decode jdk_42_method_154_code 6 = .ok (.aload_n 0, 1) := by decide +kernel
theorem d39_7 : decode jdk_42_method_154_code 7 = .ok (.getfield 15, 3) := by decide +kernel
theorem d39_10 : decode jdk_42_method_154_code 10 = .ok (.ifCond .ne 7, 3) := by decide +kernel
theorem d39_13 : decode jdk_42_method_154_code 13 = .ok (.iconst 1, 1) := by decide +kernel
theorem d39_14 : decode jdk_42_method_154_code 14 = .ok (.goto 4, 3) := by decide +kernel
theorem d39_18 : decode jdk_42_method_154_code 18 = .ok (.ireturn, 1) := by decide +kernel
theorem ef_39_R (m : MethodId) (x0 : Addr) : entryFrame m #[(.ref x0)] 1 = mkF m 0 #[vr x0] [] := by first | (simp [entryFrame, mkF, argsToLocals, Value.category]; done) | rfl
def Qrm39 (Z : State) (a1 : Addr) (p2 : Int32) (h0 : Heap) (n0 : Nat) (v : Option Value) (h : Heap) (L : List Loc) : Prop := v = some (.int 1) ∧ Fr n0 L ∧ h = h0
set_option maxRecDepth 65536 in
set_option maxHeartbeats 40000000 in
theorem rm39 (l : Launch) (Z : State) (a0 : Array Value) (hw : ∀ d ∈ tables_1, d.before a0 Z = true) (ws : List Jvm.Cond) (a1 : Addr) (p2 : Int32) (h0 : Heap) (n0 : Nat) (O0 : Old Z n0 h0) (S_3 : Sta Z Z.heap "java/lang/String" "COMPACT_STRINGS" "Z" (.int p2)) (hc5 : ¬ (p2 = (0 : Int32))) (F_6 : Fld Z h0 a1 "java/lang/String" "coder" "B" (.int 0)) :
    MF l Z h0 (⟨"java/lang/String", "isLatin1", "()Z"⟩ : MethodName) jdk_42_method_154_code 1 (some .boolean) ws (⟨0, 0, 0, 0⟩ : Room) #[(.ref a1)] (Qrm39 Z a1 p2 h0 n0) := by
  refine MetFree.of_bodySF (plainFor_of_name pn_0) hisR ?_
  intro p e s m args below meth c s₁ Bd hml0 hP hK
  obtain ⟨rfl, hZ, hh⟩ := hP
  have hx := Bd.exec
  have hby := Bd.bytes
  have hown : s.vm.findClass "java/lang/String" = some m.cls := findClass_of_methodNamed Bd.named
  have X0 : Stand p l e (⟨0, 0, 0, 0⟩ : Room) s m #[(.ref a1)] below meth c s₁ [] 0 0 := Stand.of_body Bd
  have e0 : s₁.heap = h0 := by rw [← hh, Bd.state]; rfl
  have N0 := Fr.nil n0
  have pre0 : ∀ t, Steps p.tables e below (s₁.setTop (mkF m 0 #[vr a1] [])) t → Steps p.tables e below (s₁.setTop (entryFrame m #[(.ref a1)] 1)) t := fun t k => castTop (ef_39_R m a1) k
  obtain ⟨T4, X4, e4, st4⟩ := getS2 X0 hx hZ hown (host := "") (Or.inl (W hw 14 rfl)) Via.refl e0 (S_3.ext O0.2) (g := (mkF m 0 #[vr a1] [])) rfl (hb hby d39_0)
  obtain ⟨T7, X7, e7, st7⟩ := getF X4 hx hZ hown (host := "") (Or.inl (W hw 26 rfl)) Via.refl e4 F_6 (g := (mkF m 7 #[vr a1] [(.ref a1)])) rfl rfl (hb hby d39_7)
  obtain ⟨fs, hr, hrun, hended, hW, hsame⟩ := X7.leave (v := some (.int 1)) (fun h => by rw [Bd.returns] at h; cases h)
  refine ⟨_, _, pre0 _ ?_, hrun, hended, _, _, rfl, ?_, ⟨_, rfl⟩, hW, hsame.mono (by decide) (by decide)⟩
  · show Steps p.tables e below (s₁.setTop (mkF m 0 #[vr a1] [])) _
    refine st4 _ ?_
    refine XS.ifNo X4.here hx rfl (hb hby d39_3) rfl ((if0 _ _).trans (feq (hc5 : ¬ (p2 = (0 : Int32)))).1) ?_
    refine XS.aloadN X4.here hx rfl (hb hby d39_6) rfl rfl ?_
    refine st7 _ ?_
    refine XS.ifNo X7.here hx rfl (hb hby d39_10) rfl ((if0 _ _).trans (teq ((by decide) : (0 : Int32) = (0 : Int32))).2) ?_
    refine XS.iconst X7.here hx rfl (hb hby d39_13) ?_
    refine XS.goto X7.here hx rfl (pc0 := 14) (pc' := 18) rfl (hb hby d39_14) (by decide) (by decide) ?_
    exact retN X7 hx (t := .boolean) Bd.returns (by simp) (hb hby d39_18) hr
  · show Qrm39 Z a1 p2 h0 n0 _ T7.heap _
    rw [e7]
    exact ⟨rfl, N0, rfl⟩
theorem d38_4 : decode jdk_42_method_56_code 4 = .ok (.ifCond .eq 12, 3) := by decide +kernel
theorem d38_7 : decode jdk_42_method_56_code 7 = .ok (.aload_n 0, 1) := by decide +kernel
theorem d38_8 : decode jdk_42_method_56_code 8 = .ok (.getfield 9, 3) := by decide +kernel
theorem d38_11 : decode jdk_42_method_56_code 11 = .ok (.iload_n 1, 1) := by decide +kernel
theorem d38_12 : decode jdk_42_method_56_code 12 = .ok (.invokestatic 495, 3) := by decide +kernel
theorem d40_0 : decode jdk_43_method_2_code 0 = .ok (.iload_n 1, 1) := by decide +kernel
theorem d40_1 : decode jdk_43_method_2_code 1 = .ok (.aload_n 0, 1) := by decide +kernel
theorem d40_2 : decode jdk_43_method_2_code 2 = .ok (.arraylength, 1) := by decide +kernel
theorem d40_3 : decode jdk_43_method_2_code 3 = .ok (.invokestatic 9, 3) := by decide +kernel
theorem d41_0 : decode jdk_42_method_155_code 0 = .ok (.iload_n 0, 1) := by decide +kernel
theorem d41_1 : decode jdk_42_method_155_code 1 = .ok (.iload_n 1, 1) := by decide +kernel
theorem d41_2 : decode jdk_42_method_155_code 2 = .ok (.getstatic 1053, 3) := by decide +kernel
theorem d41_5 : decode jdk_42_method_155_code 5 = .ok (.invokestatic 1059, 3) := by decide +kernel
theorem d42_0 : decode jdk_41_method_11_code 0 = .ok (.iload_n 0, 1) := by decide +kernel
theorem d42_1 : decode jdk_41_method_11_code 1 = .ok (.ifCond .lt 8, 3) := by decide +kernel
theorem d42_4 : decode jdk_41_method_11_code 4 = .ok (.iload_n 0, 1) := by decide +kernel
theorem d42_5 : decode jdk_41_method_11_code 5 = .ok (.iload_n 1, 1) := by decide +kernel
theorem d42_6 : decode jdk_41_method_11_code 6 = .ok (.if_icmp .lt 10, 3) := by decide +kernel
theorem d42_16 : decode jdk_41_method_11_code 16 = .ok (.iload_n 0, 1) := by decide +kernel
theorem d42_17 : decode jdk_41_method_11_code 17 = .ok (.ireturn, 1) := by decide +kernel
theorem ef_42_IIn (m : MethodId) (x0 : Int32) (x1 : Int32) : entryFrame m #[(.int x0), (.int x1), .null] 3 = mkF m 0 #[vi x0, vi x1, .val .null] [] := by first | (simp [entryFrame, mkF, argsToLocals, Value.category]; done) | rfl
theorem pn_33 : plainName "jdk/internal/util/Preconditions" = true := by first | (simp [plainName, overriddenIn]; done) | decide +kernel
def Qrm42 (Z : State) (p1 : Int32) (p2 : Int32) (h0 : Heap) (n0 : Nat) (v : Option Value) (h : Heap) (L : List Loc) : Prop := v = some (.int p1) ∧ Fr n0 L ∧ h = h0
set_option maxRecDepth 65536 in
set_option maxHeartbeats 40000000 in
theorem rm42 (l : Launch) (Z : State) (a0 : Array Value) (hw : ∀ d ∈ tables_1, d.before a0 Z = true) (ws : List Jvm.Cond) (p1 : Int32) (p2 : Int32) (h0 : Heap) (n0 : Nat) (O0 : Old Z n0 h0) (hc3 : ¬ (p1 < (0 : Int32))) (hc4 : p1 < p2) :
    MF l Z h0 (⟨"jdk/internal/util/Preconditions", "checkIndex", "(IILjava/util/function/BiFunction;)I"⟩ : MethodName) jdk_41_method_11_code 3 (some .int) ws (⟨0, 0, 0, 0⟩ : Room) #[(.int p1), (.int p2), .null] (Qrm42 Z p1 p2 h0 n0) := by
  refine MetFree.of_bodySF (plainFor_of_name pn_33) hisR ?_
  intro p e s m args below meth c s₁ Bd hml0 hP hK
  obtain ⟨rfl, hZ, hh⟩ := hP
  have hx := Bd.exec
  have hby := Bd.bytes
  have X0 : Stand p l e (⟨0, 0, 0, 0⟩ : Room) s m #[(.int p1), (.int p2), .null] below meth c s₁ [] 0 0 := Stand.of_body Bd
  have e0 : s₁.heap = h0 := by rw [← hh, Bd.state]; rfl
  have N0 := Fr.nil n0
  have pre0 : ∀ t, Steps p.tables e below (s₁.setTop (mkF m 0 #[vi p1, vi p2, .val .null] [])) t → Steps p.tables e below (s₁.setTop (entryFrame m #[(.int p1), (.int p2), .null] 3)) t := fun t k => castTop (ef_42_IIn m p1 p2) k
  obtain ⟨fs, hr, hrun, hended, hW, hsame⟩ := X0.leave (v := some (.int p1)) (fun h => by rw [Bd.returns] at h; cases h)
  refine ⟨_, _, pre0 _ ?_, hrun, hended, _, _, rfl, ?_, ⟨_, rfl⟩, hW, hsame.mono (by decide) (by decide)⟩
  · show Steps p.tables e below (s₁.setTop (mkF m 0 #[vi p1, vi p2, .val .null] [])) _
    refine XS.iloadN X0.here hx rfl (hb hby d42_0) rfl ?_
    refine XS.ifNo X0.here hx rfl (hb hby d42_1) rfl ((if0 _ _).trans (flt (hc3 : ¬ (p1 < (0 : Int32)))).1) ?_
    refine XS.iloadN X0.here hx rfl (hb hby d42_4) rfl ?_
    refine XS.iloadN X0.here hx rfl (hb hby d42_5) rfl ?_
    refine XS.icmpYes X0.here hx rfl (pc0 := 6) (pc' := 16) rfl (hb hby d42_6) rfl (tlt (hc4 : p1 < p2)).1 (by decide) (by decide) ?_
    refine XS.iloadN X0.here hx rfl (hb hby d42_16) rfl ?_
    exact retI X0 hx Bd.returns (hb hby d42_17) hr
  · show Qrm42 Z p1 p2 h0 n0 _ s₁.heap _
    rw [e0]
    exact ⟨rfl, N0, rfl⟩
theorem pd_34 : parseMethodDescriptor "(IILjava/util/function/BiFunction;)I" = some ⟨[.int, .int, (.object "java/util/function/BiFunction")], some .int⟩ := by decide +kernel
theorem d41_8 : decode jdk_42_method_155_code 8 = .ok (.pop, 1) := by decide +kernel
theorem d41_9 : decode jdk_42_method_155_code 9 = .ok (.return_, 1) := by decide +kernel
theorem ef_42_IIR (m : MethodId) (x0 : Int32) (x1 : Int32) (x2 : Addr) : entryFrame m #[(.int x0), (.int x1), (.ref x2)] 3 = mkF m 0 #[vi x0, vi x1, vr x2] [] := by first | (simp [entryFrame, mkF, argsToLocals, Value.category]; done) | rfl
def Qrm42_1 (Z : State) (p1 : Int32) (p2 : Int32) (a3 : Addr) (h0 : Heap) (n0 : Nat) (v : Option Value) (h : Heap) (L : List Loc) : Prop := v = some (.int p1) ∧ Fr n0 L ∧ h = h0
set_option maxRecDepth 65536 in
set_option maxHeartbeats 40000000 in
theorem rm42_1 (l : Launch) (Z : State) (a0 : Array Value) (hw : ∀ d ∈ tables_1, d.before a0 Z = true) (ws : List Jvm.Cond) (p1 : Int32) (p2 : Int32) (a3 : Addr) (h0 : Heap) (n0 : Nat) (O0 : Old Z n0 h0) (hc4 : ¬ (p1 < (0 : Int32))) (hc5 : p1 < p2) :
    MF l Z h0 (⟨"jdk/internal/util/Preconditions", "checkIndex", "(IILjava/util/function/BiFunction;)I"⟩ : MethodName) jdk_41_method_11_code 3 (some .int) ws (⟨0, 0, 0, 0⟩ : Room) #[(.int p1), (.int p2), (.ref a3)] (Qrm42_1 Z p1 p2 a3 h0 n0) := by
  refine MetFree.of_bodySF (plainFor_of_name pn_33) hisR ?_
  intro p e s m args below meth c s₁ Bd hml0 hP hK
  obtain ⟨rfl, hZ, hh⟩ := hP
  have hx := Bd.exec
  have hby := Bd.bytes
  have X0 : Stand p l e (⟨0, 0, 0, 0⟩ : Room) s m #[(.int p1), (.int p2), (.ref a3)] below meth c s₁ [] 0 0 := Stand.of_body Bd
  have e0 : s₁.heap = h0 := by rw [← hh, Bd.state]; rfl
  have N0 := Fr.nil n0
  have pre0 : ∀ t, Steps p.tables e below (s₁.setTop (mkF m 0 #[vi p1, vi p2, vr a3] [])) t → Steps p.tables e below (s₁.setTop (entryFrame m #[(.int p1), (.int p2), (.ref a3)] 3)) t := fun t k => castTop (ef_42_IIR m p1 p2 a3) k
  obtain ⟨fs, hr, hrun, hended, hW, hsame⟩ := X0.leave (v := some (.int p1)) (fun h => by rw [Bd.returns] at h; cases h)
  refine ⟨_, _, pre0 _ ?_, hrun, hended, _, _, rfl, ?_, ⟨_, rfl⟩, hW, hsame.mono (by decide) (by decide)⟩
  · show Steps p.tables e below (s₁.setTop (mkF m 0 #[vi p1, vi p2, vr a3] [])) _
    refine XS.iloadN X0.here hx rfl (hb hby d42_0) rfl ?_
    refine XS.ifNo X0.here hx rfl (hb hby d42_1) rfl ((if0 _ _).trans (flt (hc4 : ¬ (p1 < (0 : Int32)))).1) ?_
    refine XS.iloadN X0.here hx rfl (hb hby d42_4) rfl ?_
    refine XS.iloadN X0.here hx rfl (hb hby d42_5) rfl ?_
    refine XS.icmpYes X0.here hx rfl (pc0 := 6) (pc' := 16) rfl (hb hby d42_6) rfl (tlt (hc5 : p1 < p2)).1 (by decide) (by decide) ?_
    refine XS.iloadN X0.here hx rfl (hb hby d42_16) rfl ?_
    exact retI X0 hx Bd.returns (hb hby d42_17) hr
  · show Qrm42_1 Z p1 p2 a3 h0 n0 _ s₁.heap _
    rw [e0]
    exact ⟨rfl, N0, rfl⟩
theorem ef_41_II (m : MethodId) (x0 : Int32) (x1 : Int32) : entryFrame m #[(.int x0), (.int x1)] 2 = mkF m 0 #[vi x0, vi x1] [] := by first | (simp [entryFrame, mkF, argsToLocals, Value.category]; done) | rfl
def Qrm41 (Z : State) (p1 : Int32) (p2 : Int32) (h0 : Heap) (n0 : Nat) (v : Option Value) (h : Heap) (L : List Loc) : Prop := v = none ∧ Fr n0 L ∧ h = h0
set_option maxRecDepth 65536 in
set_option maxHeartbeats 40000000 in
theorem rm41 (l : Launch) (Z : State) (a0 : Array Value) (hw : ∀ d ∈ tables_1, d.before a0 Z = true) (ws : List Jvm.Cond) (p1 : Int32) (p2 : Int32) (h0 : Heap) (n0 : Nat) (O0 : Old Z n0 h0) (T_3 : own_SF Z) (hc6 : ¬ (p1 < (0 : Int32))) (hc7 : p1 < p2) (hc10 : ¬ (p1 < (0 : Int32))) (hc11 : p1 < p2) :
    MF l Z h0 (⟨"java/lang/String", "checkIndex", "(II)V"⟩ : MethodName) jdk_42_method_155_code 2 none ws (⟨1, 0, 0, 14⟩ : Room) #[(.int p1), (.int p2)] (Qrm41 Z p1 p2 h0 n0) := by
  refine MetFree.of_bodySF (plainFor_of_name pn_0) hisR ?_
  intro p e s m args below meth c s₁ Bd hml0 hP hK
  obtain ⟨rfl, hZ, hh⟩ := hP
  have hx := Bd.exec
  have hby := Bd.bytes
  have hml : c.maxLocals = 2 := hml0
  have hown : s.vm.findClass "java/lang/String" = some m.cls := findClass_of_methodNamed Bd.named
  have X0 : Stand p l e (⟨1, 0, 0, 14⟩ : Room) s m #[(.int p1), (.int p2)] below meth c s₁ [] 0 0 := Stand.of_body Bd
  have e0 : s₁.heap = h0 := by rw [← hh, Bd.state]; rfl
  have N0 := Fr.nil n0
  have pre0 : ∀ t, Steps p.tables e below (s₁.setTop (mkF m 0 #[vi p1, vi p2] [])) t → Steps p.tables e below (s₁.setTop (entryFrame m #[(.int p1), (.int p2)] 2)) t := fun t k => castTop (ef_41_II m p1 p2) k
  obtain ⟨vF, S_F, hF⟩ := T_3
  have pre4 : ∀ t, Steps p.tables e below (s₁.setTop (mkF m 2 #[vi p1, vi p2] [(.int p2), (.int p1)])) t → Steps p.tables e below (s₁.setTop (entryFrame m #[(.int p1), (.int p2)] 2)) t := fun t kt => pre0 t (by
    show Steps p.tables e below (s₁.setTop (mkF m 0 #[vi p1, vi p2] [])) _
    refine XS.iloadN X0.here hx rfl (hb hby d41_0) rfl ?_
    refine XS.iloadN X0.here hx rfl (hb hby d41_1) rfl ?_
    exact kt)
  rcases hF with rfl | ⟨aF, rfl⟩
  · obtain ⟨T5, X5, e5, st5⟩ := getS2 X0 hx hZ hown (host := "") (Or.inl (W hw 208 rfl)) Via.refl e0 (S_F.ext O0.2) (g := (mkF m 2 #[vi p1, vi p2] [(.int p2), (.int p1)])) rfl (hb hby d41_2)
    obtain ⟨_, T8, L8, X8, hQ8, st8⟩ := cS X5 hx hZ hown (W hw 210 rfl) (W hw 211 rfl) (W hw 209 rfl) (W hw 212 rfl) (by decide) (rm42 l Z a0 hw [] p1 p2 h0 n0 O0 hc6 hc7) e5 #[vi p1, vi p2] [] (by rw [hml]; rfl) (hb hby d41_5) pd_34 rfl (W := 0) (Nat.le_of_eq rfl) (by decide) (by decide) (by decide) (by decide)
    obtain ⟨rfl, Nq8, e8⟩ := hQ8
    have N8 := Fr.app N0 Nq8
    obtain ⟨fs, hr, hrun, hended, hW, hsame⟩ := X8.leave (v := none) (fun _ => rfl)
    refine ⟨_, _, pre4 _ ?_, hrun, hended, _, _, rfl, ?_, ⟨_, rfl⟩, hW, hsame.mono (by decide) (by decide)⟩
    · show Steps p.tables e below (s₁.setTop (mkF m 2 #[vi p1, vi p2] [(.int p2), (.int p1)])) _
      refine st5 _ ?_
      refine st8 _ ?_
      refine XS.pop X8.here hx rfl (hb hby d41_8) rfl rfl ?_
      exact X8.returnOut hx Bd.returns (hb hby d41_9) hr
    · show Qrm41 Z p1 p2 h0 n0 _ T8.heap _
      rw [e8]
      exact ⟨rfl, N8, rfl⟩
  · obtain ⟨T9, X9, e9, st9⟩ := getS2 X0 hx hZ hown (host := "") (Or.inl (W hw 208 rfl)) Via.refl e0 (S_F.ext O0.2) (g := (mkF m 2 #[vi p1, vi p2] [(.int p2), (.int p1)])) rfl (hb hby d41_2)
    obtain ⟨_, T12, L12, X12, hQ12, st12⟩ := cS X9 hx hZ hown (W hw 210 rfl) (W hw 211 rfl) (W hw 209 rfl) (W hw 212 rfl) (by decide) (rm42_1 l Z a0 hw [] p1 p2 aF h0 n0 O0 hc10 hc11) e9 #[vi p1, vi p2] [] (by rw [hml]; rfl) (hb hby d41_5) pd_34 rfl (W := 0) (Nat.le_of_eq rfl) (by decide) (by decide) (by decide) (by decide)
    obtain ⟨rfl, Nq12, e12⟩ := hQ12
    have N12 := Fr.app N0 Nq12
    obtain ⟨fs, hr, hrun, hended, hW, hsame⟩ := X12.leave (v := none) (fun _ => rfl)
    refine ⟨_, _, pre4 _ ?_, hrun, hended, _, _, rfl, ?_, ⟨_, rfl⟩, hW, hsame.mono (by decide) (by decide)⟩
    · show Steps p.tables e below (s₁.setTop (mkF m 2 #[vi p1, vi p2] [(.int p2), (.int p1)])) _
      refine st9 _ ?_
      refine st12 _ ?_
      refine XS.pop X12.here hx rfl (hb hby d41_8) rfl rfl ?_
      exact X12.returnOut hx Bd.returns (hb hby d41_9) hr
    · show Qrm41 Z p1 p2 h0 n0 _ T12.heap _
      rw [e12]
      exact ⟨rfl, N12, rfl⟩
theorem d40_6 : decode jdk_43_method_2_code 6 = .ok (.aload_n 0, 1) := by decide +kernel
theorem d40_7 : decode jdk_43_method_2_code 7 = .ok (.iload_n 1, 1) := by decide +kernel
theorem d40_8 : decode jdk_43_method_2_code 8 = .ok (.baload, 1) := by decide +kernel
theorem d40_9 : decode jdk_43_method_2_code 9 = .ok (.sipush 255, 3) := by decide +kernel
theorem d40_12 : decode jdk_43_method_2_code 12 = .ok (.iand, 1) := by decide +kernel
theorem d40_13 : decode jdk_43_method_2_code 13 = .ok (.i2c, 1) := by decide +kernel
theorem d40_14 : decode jdk_43_method_2_code 14 = .ok (.ireturn, 1) := by decide +kernel
theorem ef_40_RI (m : MethodId) (x0 : Addr) (x1 : Int32) : entryFrame m #[(.ref x0), (.int x1)] 2 = mkF m 0 #[vr x0, vi x1] [] := by first | (simp [entryFrame, mkF, argsToLocals, Value.category]; done) | rfl
theorem pn_35 : plainName "java/lang/StringLatin1" = true := by first | (simp [plainName, overriddenIn]; done) | decide +kernel
def Qrm40 (Z : State) (a1 : Addr) (p2 : Int32) (k3 : ClassId) (p4 : Int32) (k5 : (Nat → Int32)) (h0 : Heap) (n0 : Nat) (v : Option Value) (h : Heap) (L : List Loc) : Prop := v = some (.int (nar .char (((k5 (p2).toNatClampNeg) &&& (255 : Int32)).toUInt32.toUInt16.toUInt32.toInt32))) ∧ Fr n0 L ∧ h = h0
set_option maxRecDepth 65536 in
set_option maxHeartbeats 40000000 in
theorem rm40 (l : Launch) (Z : State) (a0 : Array Value) (hw : ∀ d ∈ tables_1, d.before a0 Z = true) (ws : List Jvm.Cond) (a1 : Addr) (p2 : Int32) (k3 : ClassId) (p4 : Int32) (k5 : (Nat → Int32)) (h0 : Heap) (n0 : Nat) (O0 : Old Z n0 h0) (V_6 : Arv Z h0 a1 k3 .byte p4 (own_bs k5) (.int 0)) (T_8 : own_SF Z) (hc9 : ¬ (p2 < (0 : Int32))) (hc10 : p2 < p4) (hc12 : p2 < (16 : Int32)) :
    MF l Z h0 (⟨"java/lang/StringLatin1", "charAt", "([BI)C"⟩ : MethodName) jdk_43_method_2_code 2 (some .char) ws (⟨2, 0, 0, 27⟩ : Room) #[(.ref a1), (.int p2)] (Qrm40 Z a1 p2 k3 p4 k5 h0 n0) := by
  refine MetFree.of_bodySF (plainFor_of_name pn_35) hisR ?_
  intro p e s m args below meth c s₁ Bd hml0 hP hK
  obtain ⟨rfl, hZ, hh⟩ := hP
  have hx := Bd.exec
  have hby := Bd.bytes
  have hml : c.maxLocals = 2 := hml0
  have hown : s.vm.findClass "java/lang/StringLatin1" = some m.cls := findClass_of_methodNamed Bd.named
  have X0 : Stand p l e (⟨2, 0, 0, 27⟩ : Room) s m #[(.ref a1), (.int p2)] below meth c s₁ [] 0 0 := Stand.of_body Bd
  have e0 : s₁.heap = h0 := by rw [← hh, Bd.state]; rfl
  have N0 := Fr.nil n0
  have pre0 : ∀ t, Steps p.tables e below (s₁.setTop (mkF m 0 #[vr a1, vi p2] [])) t → Steps p.tables e below (s₁.setTop (entryFrame m #[(.ref a1), (.int p2)] 2)) t := fun t k => castTop (ef_40_RI m a1 p2) k
  obtain ⟨cl7, Ar7, q7, S7, M7, Hs7, G7⟩ := id V_6
  obtain ⟨_, T11, L11, X11, hQ11, st11⟩ := cS X0 hx hZ hown (W hw 205 rfl) (W hw 206 rfl) (W hw 2 rfl) (W hw 207 rfl) (by decide) (rm41 l Z a0 hw [] p2 p4 h0 n0 O0 T_8 hc9 hc10 hc9 hc10) e0 #[vr a1, vi p2] [] (by rw [hml]; rfl) (hb hby d40_3) pd_24 rfl (W := 0) (Nat.le_of_eq rfl) (by decide) (by decide) (by decide) (by decide)
  obtain ⟨rfl, Nq11, e11⟩ := hQ11
  have N11 := Fr.app N0 Nq11
  obtain ⟨cl13, Ar13, q13, S13, M13, Hs13, G13⟩ := id V_6
  have hin13 : ¬ (p2 < 0 ∨ cl13.slots.size ≤ (p2).toNatClampNeg) := inb_of S13 ⟨hc9, hc10⟩
  have hat13 : cl13.slots[(p2).toNatClampNeg]? = some (.int (k5 (p2).toNatClampNeg)) := Has.at Hs13 hin13 (own_bs_at _ _ _ hc12)
  obtain ⟨fs, hr, hrun, hended, hW, hsame⟩ := X11.leave (v := some (.int (nar .char (((k5 (p2).toNatClampNeg) &&& (255 : Int32)).toUInt32.toUInt16.toUInt32.toInt32)))) (fun h => by rw [Bd.returns] at h; cases h)
  refine ⟨_, _, pre0 _ ?_, hrun, hended, _, _, rfl, ?_, ⟨_, rfl⟩, hW, hsame.mono (by decide) (by decide)⟩
  · show Steps p.tables e below (s₁.setTop (mkF m 0 #[vr a1, vi p2] [])) _
    refine XS.iloadN X0.here hx rfl (hb hby d40_0) rfl ?_
    refine XS.aloadN X0.here hx rfl (hb hby d40_1) rfl rfl ?_
    refine X0.arraylength hx (by rw [e0]; exact Ar7.1) (State.isArrayOf_alike hZ.alike Ar7.2.1) (g := (mkF m 2 #[vr a1, vi p2] [(.ref a1), (.int p2)])) rfl rfl (hb hby d40_2) _ ?_
    rw [len_of S7 M7]
    refine st11 _ ?_
    refine XS.aloadN X11.here hx rfl (hb hby d40_6) rfl rfl ?_
    refine XS.iloadN X11.here hx rfl (hb hby d40_7) rfl ?_
    refine X11.baloadBytes hx (j := p2) (v := (.int (k5 (p2).toNatClampNeg))) (by rw [e11]; exact Ar13.1) (State.isArrayOf_alike hZ.alike Ar13.2.1) Ar13.2.2 hin13 hat13 (g := (mkF m 8 #[vr a1, vi p2] [(.int p2), (.ref a1)])) rfl rfl (hb hby d40_8) _ ?_
    refine XS.sipush X11.here hx rfl (hb hby d40_9) ?_
    refine XS.iand X11.here hx rfl (hb hby d40_12) rfl ?_
    show Steps p.tables e below (T11.setTop (mkF m 13 #[vr a1, vi p2] [(.int ((k5 (p2).toNatClampNeg) &&& (255 : Int32)))])) _
    refine XS.i2c X11.here hx rfl (hb hby d40_13) rfl ?_
    exact retN X11 hx (t := .char) Bd.returns (by simp) (hb hby d40_14) hr
  · show Qrm40 Z a1 p2 k3 p4 k5 h0 n0 _ T11.heap _
    rw [e11]
    exact ⟨rfl, N11, rfl⟩
theorem pd_36 : parseMethodDescriptor "([BI)C" = some ⟨[(.array .byte), .int], some .char⟩ := by decide +kernel
theorem d38_15 : decode jdk_42_method_56_code 15 = .ok (.ireturn, 1) := by decide +kernel
theorem ef_38_RI (m : MethodId) (x0 : Addr) (x1 : Int32) : entryFrame m #[(.ref x0), (.int x1)] 2 = mkF m 0 #[vr x0, vi x1] [] := by first | (simp [entryFrame, mkF, argsToLocals, Value.category]; done) | rfl
def Qrm38 (Z : State) (a1 : Addr) (p2 : Int32) (p4 : Int32) (a9 : Addr) (k12 : ClassId) (p13 : Int32) (k14 : (Nat → Int32)) (h0 : Heap) (n0 : Nat) (v : Option Value) (h : Heap) (L : List Loc) : Prop := v = some (.int (nar .char (nar .char (((k14 (p2).toNatClampNeg) &&& (255 : Int32)).toUInt32.toUInt16.toUInt32.toInt32)))) ∧ Fr n0 L ∧ h = h0
set_option maxRecDepth 65536 in
set_option maxHeartbeats 40000000 in
theorem rm38 (l : Launch) (Z : State) (a0 : Array Value) (hw : ∀ d ∈ tables_1, d.before a0 Z = true) (ws : List Jvm.Cond) (a1 : Addr) (p2 : Int32) (p4 : Int32) (a9 : Addr) (k12 : ClassId) (p13 : Int32) (k14 : (Nat → Int32)) (h0 : Heap) (n0 : Nat) (O0 : Old Z n0 h0) (E_3 : Exa Z h0 a1 "java/lang/String") (S_5 : Sta Z Z.heap "java/lang/String" "COMPACT_STRINGS" "Z" (.int p4)) (hc6 : ¬ (p4 = (0 : Int32))) (F_7 : Fld Z h0 a1 "java/lang/String" "coder" "B" (.int 0)) (F_10 : Fld Z h0 a1 "java/lang/String" "value" "[B" (.ref a9)) (V_15 : Arv Z h0 a9 k12 .byte p13 (own_bs k14) (.int 0)) (T_16 : own_SF Z) (hc17 : ¬ (p2 < (0 : Int32))) (hc18 : p2 < p13) (hc19 : p2 < (16 : Int32)) :
    MF l Z h0 (⟨"java/lang/String", "charAt", "(I)C"⟩ : MethodName) jdk_42_method_56_code 2 (some .char) ws (⟨3, 0, 0, 40⟩ : Room) #[(.ref a1), (.int p2)] (Qrm38 Z a1 p2 p4 a9 k12 p13 k14 h0 n0) := by
  refine MetFree.of_bodySF (plainFor_of_name pn_0) hisR ?_
  intro p e s m args below meth c s₁ Bd hml0 hP hK
  obtain ⟨rfl, hZ, hh⟩ := hP
  have hx := Bd.exec
  have hby := Bd.bytes
  have hml : c.maxLocals = 2 := hml0
  have hown : s.vm.findClass "java/lang/String" = some m.cls := findClass_of_methodNamed Bd.named
  have X0 : Stand p l e (⟨3, 0, 0, 40⟩ : Room) s m #[(.ref a1), (.int p2)] below meth c s₁ [] 0 0 := Stand.of_body Bd
  have e0 : s₁.heap = h0 := by rw [← hh, Bd.state]; rfl
  have N0 := Fr.nil n0
  have pre0 : ∀ t, Steps p.tables e below (s₁.setTop (mkF m 0 #[vr a1, vi p2] [])) t → Steps p.tables e below (s₁.setTop (entryFrame m #[(.ref a1), (.int p2)] 2)) t := fun t k => castTop (ef_38_RI m a1 p2) k
  obtain ⟨_, T8, L8, X8, hQ8, st8⟩ := cV X0 hx hZ hown (W hw 196 rfl) (W hw 197 rfl) (notFace_of_selects (args := #[]) (mvT hZ (W hw 199 rfl))) (W hw 199 rfl) (W hw 198 rfl) (W hw 200 rfl) (W hw 2 rfl) (by decide) (rm39 l Z a0 hw [] a1 p4 h0 n0 O0 S_5 hc6 F_7) e0 E_3 #[vr a1, vi p2] [] (by rw [hml]; rfl) (hb hby d38_1) pd_18 rfl (W := 0) (Nat.le_of_eq rfl) (by decide) (by decide) (by decide) (by decide)
  obtain ⟨rfl, Nq8, e8⟩ := hQ8
  have N8 := Fr.app N0 Nq8
  obtain ⟨T11, X11, e11, st11⟩ := getF X8 hx hZ hown (host := "") (Or.inl (W hw 28 rfl)) Via.refl e8 F_10 (g := (mkF m 8 #[vr a1, vi p2] [(.ref a1)])) rfl rfl (hb hby d38_8)
  obtain ⟨_, T20, L20, X20, hQ20, st20⟩ := cS X11 hx hZ hown (W hw 201 rfl) (W hw 202 rfl) (W hw 203 rfl) (W hw 204 rfl) (by decide) (rm40 l Z a0 hw [] a9 p2 k12 p13 k14 h0 n0 O0 V_15 T_16 hc17 hc18 hc19) e11 #[vr a1, vi p2] [] (by rw [hml]; rfl) (hb hby d38_12) pd_36 rfl (W := 0) (Nat.le_of_eq rfl) (by decide) (by decide) (by decide) (by decide)
  obtain ⟨rfl, Nq20, e20⟩ := hQ20
  have N20 := Fr.app N8 Nq20
  obtain ⟨fs, hr, hrun, hended, hW, hsame⟩ := X20.leave (v := some (.int (nar .char (nar .char (((k14 (p2).toNatClampNeg) &&& (255 : Int32)).toUInt32.toUInt16.toUInt32.toInt32))))) (fun h => by rw [Bd.returns] at h; cases h)
  refine ⟨_, _, pre0 _ ?_, hrun, hended, _, _, rfl, ?_, ⟨_, rfl⟩, hW, hsame.mono (by decide) (by decide)⟩
  · show Steps p.tables e below (s₁.setTop (mkF m 0 #[vr a1, vi p2] [])) _
    refine XS.aloadN X0.here hx rfl (hb hby d38_0) rfl rfl ?_
    refine st8 _ ?_
    refine XS.ifNo X8.here hx rfl (hb hby d38_4) rfl ((if0 _ _).trans (feq ((by decide) : ¬ ((1 : Int32) = (0 : Int32)))).1) ?_
    refine XS.aloadN X8.here hx rfl (hb hby d38_7) rfl rfl ?_
    refine st11 _ ?_
    refine XS.iloadN X11.here hx rfl (hb hby d38_11) rfl ?_
    refine st20 _ ?_
    exact retN X20 hx (t := .char) Bd.returns (by simp) (hb hby d38_15) hr
  · show Qrm38 Z a1 p2 p4 a9 k12 p13 k14 h0 n0 _ T20.heap _
    rw [e20]
    exact ⟨rfl, N20, rfl⟩
theorem pd_37 : parseMethodDescriptor "(I)C" = some ⟨[.int], some .char⟩ := by decide +kernel
theorem d37_15 : decode method_6_code 15 = .ok (.iload_n 1, 1) := by decide +kernel
theorem d37_16 : decode method_6_code 16 = .ok (.iload_n 2, 1) := by decide +kernel
theorem d37_17 : decode method_6_code 17 = .ok (.iload_n 3, 1) := by decide +kernel
theorem d37_18 : decode method_6_code 18 = .ok (.iload 4, 2) := by decide +kernel
theorem d37_20 : decode method_6_code 20 = .ok (.iload 5, 2) := by decide +kernel
theorem d37_22 : decode method_6_code 22 = .ok (.iload 6, 2) := by decide +kernel
theorem d37_24 : decode method_6_code 24 = .ok (.iload 7, 2) := by decide +kernel
theorem d37_26 : decode method_6_code 26 = .ok (.lload 8, 2) := by decide +kernel
theorem d37_28 : decode method_6_code 28 = .ok (.invokestatic 69, 3) := by decide +kernel
theorem d43_0 : decode method_5_code 0 = .ok (.iload_n 0, 1) := by decide +kernel
theorem d43_1 : decode method_5_code 1 = .ok (.iload 4, 2) := by decide +kernel
theorem d43_3 : decode method_5_code 3 = .ok (.if_icmp .ge 22, 3) := by decide +kernel
theorem d43_6 : decode method_5_code 6 = .ok (.iload_n 0, 1) := by decide +kernel
theorem d43_7 : decode method_5_code 7 = .ok (.ifCond .ne 7, 3) := by decide +kernel
theorem d43_10 : decode method_5_code 10 = .ok (.iload_n 1, 1) := by decide +kernel
theorem d43_11 : decode method_5_code 11 = .ok (.goto 13, 3) := by decide +kernel
theorem d43_24 : decode method_5_code 24 = .ok (.ireturn, 1) := by decide +kernel
theorem d43_14 : decode method_5_code 14 = .ok (.iload_n 0, 1) := by decide +kernel
theorem d43_15 : decode method_5_code 15 = .ok (.iconst 1, 1) := by decide +kernel
theorem d43_16 : decode method_5_code 16 = .ok (.if_icmp .ne 7, 3) := by decide +kernel
theorem d43_19 : decode method_5_code 19 = .ok (.iload_n 2, 1) := by decide +kernel
theorem d43_20 : decode method_5_code 20 = .ok (.goto 4, 3) := by decide +kernel
theorem d43_23 : decode method_5_code 23 = .ok (.iload_n 3, 1) := by decide +kernel
theorem d43_25 : decode method_5_code 25 = .ok (.iload_n 0, 1) := by decide +kernel
theorem d43_26 : decode method_5_code 26 = .ok (.iload 4, 2) := by decide +kernel
theorem d43_28 : decode method_5_code 28 = .ok (.isub, 1) := by decide +kernel
theorem d43_29 : decode method_5_code 29 = .ok (.istore 9, 2) := by decide +kernel
theorem d43_31 : decode method_5_code 31 = .ok (.iload 5, 2) := by decide +kernel
theorem d43_33 : decode method_5_code 33 = .ok (.iconst 1, 1) := by decide +kernel
theorem d43_34 : decode method_5_code 34 = .ok (.if_icmp .ne 17, 3) := by decide +kernel
theorem d43_37 : decode method_5_code 37 = .ok (.iload 9, 2) := by decide +kernel
theorem d43_39 : decode method_5_code 39 = .ok (.ifCond .ne 6, 3) := by decide +kernel
theorem d43_42 : decode method_5_code 42 = .ok (.bipush 45, 2) := by decide +kernel
theorem d43_44 : decode method_5_code 44 = .ok (.ireturn, 1) := by decide +kernel
theorem d43_45 : decode method_5_code 45 = .ok (.iload 9, 2) := by decide +kernel
theorem d43_47 : decode method_5_code 47 = .ok (.iconst 1, 1) := by decide +kernel
theorem d43_48 : decode method_5_code 48 = .ok (.isub, 1) := by decide +kernel
theorem d43_49 : decode method_5_code 49 = .ok (.istore 9, 2) := by decide +kernel
theorem d43_51 : decode method_5_code 51 = .ok (.lload 7, 2) := by decide +kernel
theorem d43_53 : decode method_5_code 53 = .ok (.iload 6, 2) := by decide +kernel
theorem d43_55 : decode method_5_code 55 = .ok (.iconst 1, 1) := by decide +kernel
theorem d43_56 : decode method_5_code 56 = .ok (.isub, 1) := by decide +kernel
theorem d43_57 : decode method_5_code 57 = .ok (.iload 9, 2) := by decide +kernel
theorem d43_59 : decode method_5_code 59 = .ok (.isub, 1) := by decide +kernel
theorem d43_60 : decode method_5_code 60 = .ok (.invokestatic 59, 3) := by decide +kernel
theorem d44_0 : decode method_4_code 0 = .ok (.bipush 10, 2) := by decide +kernel
theorem d44_2 : decode method_4_code 2 = .ok (.newarray .long, 2) := by decide +kernel
theorem d44_4 : decode method_4_code 4 = .ok (.dup, 1) := by decide +kernel
theorem d44_5 : decode method_4_code 5 = .ok (.iconst 0, 1) := by decide +kernel
theorem d44_6 : decode method_4_code 6 = .ok (.lconst 1, 1) := by decide +kernel
theorem d44_7 : decode method_4_code 7 = .ok (.lastore, 1) := by decide +kernel
theorem d44_8 : decode method_4_code 8 = .ok (.dup, 1) := by decide +kernel
theorem d44_9 : decode method_4_code 9 = .ok (.iconst 1, 1) := by decide +kernel
theorem d44_10 : decode method_4_code 10 = .ok (.ldc2_w 41, 3) := by decide +kernel
theorem d44_13 : decode method_4_code 13 = .ok (.lastore, 1) := by decide +kernel
theorem d44_14 : decode method_4_code 14 = .ok (.dup, 1) := by decide +kernel
theorem d44_15 : decode method_4_code 15 = .ok (.iconst 2, 1) := by decide +kernel
theorem d44_16 : decode method_4_code 16 = .ok (.ldc2_w 43, 3) := by decide +kernel
theorem d44_19 : decode method_4_code 19 = .ok (.lastore, 1) := by decide +kernel
theorem d44_20 : decode method_4_code 20 = .ok (.dup, 1) := by decide +kernel
theorem d44_21 : decode method_4_code 21 = .ok (.iconst 3, 1) := by decide +kernel
theorem d44_22 : decode method_4_code 22 = .ok (.ldc2_w 45, 3) := by decide +kernel
theorem d44_25 : decode method_4_code 25 = .ok (.lastore, 1) := by decide +kernel
theorem d44_26 : decode method_4_code 26 = .ok (.dup, 1) := by decide +kernel
theorem d44_27 : decode method_4_code 27 = .ok (.iconst 4, 1) := by decide +kernel
theorem d44_28 : decode method_4_code 28 = .ok (.ldc2_w 47, 3) := by decide +kernel
theorem d44_31 : decode method_4_code 31 = .ok (.lastore, 1) := by decide +kernel
theorem d44_32 : decode method_4_code 32 = .ok (.dup, 1) := by decide +kernel
theorem d44_33 : decode method_4_code 33 = .ok (.iconst 5, 1) := by decide +kernel
theorem d44_34 : decode method_4_code 34 = .ok (.ldc2_w 49, 3) := by decide +kernel
theorem d44_37 : decode method_4_code 37 = .ok (.lastore, 1) := by decide +kernel
theorem d44_38 : decode method_4_code 38 = .ok (.dup, 1) := by decide +kernel
theorem d44_39 : decode method_4_code 39 = .ok (.bipush 6, 2) := by decide +kernel
theorem d44_41 : decode method_4_code 41 = .ok (.ldc2_w 51, 3) := by decide +kernel
theorem d44_44 : decode method_4_code 44 = .ok (.lastore, 1) := by decide +kernel
theorem d44_45 : decode method_4_code 45 = .ok (.dup, 1) := by decide +kernel
theorem d44_46 : decode method_4_code 46 = .ok (.bipush 7, 2) := by decide +kernel
theorem d44_48 : decode method_4_code 48 = .ok (.ldc2_w 53, 3) := by decide +kernel
theorem d44_51 : decode method_4_code 51 = .ok (.lastore, 1) := by decide +kernel
theorem d44_52 : decode method_4_code 52 = .ok (.dup, 1) := by decide +kernel
theorem d44_53 : decode method_4_code 53 = .ok (.bipush 8, 2) := by decide +kernel
theorem d44_55 : decode method_4_code 55 = .ok (.ldc2_w 55, 3) := by decide +kernel
theorem d44_58 : decode method_4_code 58 = .ok (.lastore, 1) := by decide +kernel
theorem d44_59 : decode method_4_code 59 = .ok (.dup, 1) := by decide +kernel
theorem d44_60 : decode method_4_code 60 = .ok (.bipush 9, 2) := by decide +kernel
theorem d44_62 : decode method_4_code 62 = .ok (.ldc2_w 57, 3) := by decide +kernel
theorem d44_65 : decode method_4_code 65 = .ok (.lastore, 1) := by decide +kernel
theorem d44_66 : decode method_4_code 66 = .ok (.astore_n 1, 1) := by decide +kernel
theorem d44_67 : decode method_4_code 67 = .ok (.aload_n 1, 1) := by decide +kernel
theorem d44_68 : decode method_4_code 68 = .ok (.iload_n 0, 1) := by decide +kernel
theorem d44_69 : decode method_4_code 69 = .ok (.laload, 1) := by decide +kernel
theorem d44_70 : decode method_4_code 70 = .ok (.lreturn, 1) := by decide +kernel
theorem ef_44_I (m : MethodId) (x0 : Int32) : entryFrame m #[(.int x0)] 2 = mkF m 0 #[vi x0, .unset] [] := by first | (simp [entryFrame, mkF, argsToLocals, Value.category]; done) | rfl
def Qrm44 (Z : State) (p1 : Int32) (h0 : Heap) (n0 : Nat) (v : Option Value) (h : Heap) (L : List Loc) : Prop := v = some (.long (own_p10 p1)) ∧ Fr n0 L ∧ Keep h0 h []
set_option maxRecDepth 65536 in
set_option maxHeartbeats 40000000 in
theorem rm44 (l : Launch) (Z : State) (a0 : Array Value) (hw : ∀ d ∈ tables_1, d.before a0 Z = true) (ws : List Jvm.Cond) (p1 : Int32) (h0 : Heap) (n0 : Nat) (O0 : Old Z n0 h0) (hc33 : ¬ (p1 < (0 : Int32))) (hc34 : p1 < (10 : Int32)) :
    MF l Z h0 (⟨"com/example/tight_bound/tightbound/HeapObjectToStringPinLaw", "pow10", "(I)J"⟩ : MethodName) method_4_code 2 (some .long) ws (⟨0, 1, 10, 0⟩ : Room) #[(.int p1)] (Qrm44 Z p1 h0 n0) := by
  refine MetFree.of_bodySF (plainFor_of_name pn_31) hisR ?_
  intro p e s m args below meth c s₁ Bd hml0 hP hK
  obtain ⟨rfl, hZ, hh⟩ := hP
  have hx := Bd.exec
  have hby := Bd.bytes
  have hown : s.vm.findClass "com/example/tight_bound/tightbound/HeapObjectToStringPinLaw" = some m.cls := findClass_of_methodNamed Bd.named
  have X0 : Stand p l e (⟨0, 1, 10, 0⟩ : Room) s m #[(.int p1)] below meth c s₁ [] 0 0 := Stand.of_body Bd
  have e0 : s₁.heap = h0 := by rw [← hh, Bd.state]; rfl
  have N0 := Fr.nil n0
  have pre0 : ∀ t, Steps p.tables e below (s₁.setTop (mkF m 0 #[vi p1, .unset] [])) t → Steps p.tables e below (s₁.setTop (entryFrame m #[(.int p1)] 2)) t := fun t k => castTop (ef_44_I m p1) k
  obtain ⟨T2, h2, k2, X2, e2, E2, A2, B2, st2⟩ := newPE X0 hx hZ (W hw 219 rfl) e0 (g := (mkF m 2 #[vi p1, .unset] [(.int 10)])) rfl (hb hby d44_2) rfl (by decide) (cap := 10) (by decide) (by decide) (by decide) (by decide) (ad := "[J") (by decide)
  obtain ⟨b2, g2⟩ : ∃ z, z = h0.size := ⟨_, rfl⟩
  rw [← g2] at A2 B2 st2
  have g_b2 := own_born O0 (own_eqle g2)
  have sz_b2 := Nat.le_trans (Keep.refl h0 []).1 (own_eqle g2)
  have K2 := (Keep.refl h0 []).ext E2
  have V2 : Arv Z h2 b2 k2 .long (10 : Int32) [] (.long 0) := Arv.new A2 (by decide)
  have V3 : Arv Z h2 b2 k2 .long (10 : Int32) [(.long 0)] (.long 0) := V2.pad (pad_rep [] (.long 0) 1)
  obtain ⟨cl4, Ar4, q4, S4, M4, Hs4, G4⟩ := id V3
  have hin4 : ¬ ((0 : Int32) < 0 ∨ cl4.slots.size ≤ ((0 : Int32)).toNatClampNeg) := inb_of S4 ⟨by decide, by decide⟩
  obtain ⟨T5, h5, X5, e5, W5, st5⟩ := stJ X2 hx hZ e2 Ar4 (j := (0 : Int32)) hin4 (g := (mkF m 7 #[vi p1, .unset] [(.long 1), (.int 0), (.ref b2), (.ref b2)])) rfl rfl (hb hby d44_7)
  have K5 := K2.wr W5 (Or.inr sz_b2)
  have N5 := Fr.snoc X5 N0 g_b2
  have Vw5 : Arv Z h5 b2 k2 .long (10 : Int32) [(.long 1)] (.long 0) := Arv.set Ar4 q4 S4 M4 Hs4 G4 rfl W5 0 rfl (Nat.le_of_ble_eq_true rfl)
  have V6 : Arv Z h5 b2 k2 .long (10 : Int32) [(.long 1), (.long 0)] (.long 0) := Vw5.pad (pad_rep [(.long 1)] (.long 0) 1)
  obtain ⟨cl7, Ar7, q7, S7, M7, Hs7, G7⟩ := id V6
  have hin7 : ¬ ((1 : Int32) < 0 ∨ cl7.slots.size ≤ ((1 : Int32)).toNatClampNeg) := inb_of S7 ⟨by decide, by decide⟩
  obtain ⟨T8, h8, X8, e8, W8, st8⟩ := stJ X5 hx hZ e5 Ar7 (j := (1 : Int32)) hin7 (g := (mkF m 13 #[vi p1, .unset] [(.long 10), (.int 1), (.ref b2), (.ref b2)])) rfl rfl (hb hby d44_13)
  have K8 := K5.wr W8 (Or.inr sz_b2)
  have N8 := Fr.snoc X8 N5 g_b2
  have Vw8 : Arv Z h8 b2 k2 .long (10 : Int32) [(.long 1), (.long 10)] (.long 0) := Arv.set Ar7 q7 S7 M7 Hs7 G7 rfl W8 1 rfl (Nat.le_of_ble_eq_true rfl)
  have V9 : Arv Z h8 b2 k2 .long (10 : Int32) [(.long 1), (.long 10), (.long 0)] (.long 0) := Vw8.pad (pad_rep [(.long 1), (.long 10)] (.long 0) 1)
  obtain ⟨cl10, Ar10, q10, S10, M10, Hs10, G10⟩ := id V9
  have hin10 : ¬ ((2 : Int32) < 0 ∨ cl10.slots.size ≤ ((2 : Int32)).toNatClampNeg) := inb_of S10 ⟨by decide, by decide⟩
  obtain ⟨T11, h11, X11, e11, W11, st11⟩ := stJ X8 hx hZ e8 Ar10 (j := (2 : Int32)) hin10 (g := (mkF m 19 #[vi p1, .unset] [(.long 100), (.int 2), (.ref b2), (.ref b2)])) rfl rfl (hb hby d44_19)
  have K11 := K8.wr W11 (Or.inr sz_b2)
  have N11 := Fr.snoc X11 N8 g_b2
  have Vw11 : Arv Z h11 b2 k2 .long (10 : Int32) [(.long 1), (.long 10), (.long 100)] (.long 0) := Arv.set Ar10 q10 S10 M10 Hs10 G10 rfl W11 2 rfl (Nat.le_of_ble_eq_true rfl)
  have V12 : Arv Z h11 b2 k2 .long (10 : Int32) [(.long 1), (.long 10), (.long 100), (.long 0)] (.long 0) := Vw11.pad (pad_rep [(.long 1), (.long 10), (.long 100)] (.long 0) 1)
  obtain ⟨cl13, Ar13, q13, S13, M13, Hs13, G13⟩ := id V12
  have hin13 : ¬ ((3 : Int32) < 0 ∨ cl13.slots.size ≤ ((3 : Int32)).toNatClampNeg) := inb_of S13 ⟨by decide, by decide⟩
  obtain ⟨T14, h14, X14, e14, W14, st14⟩ := stJ X11 hx hZ e11 Ar13 (j := (3 : Int32)) hin13 (g := (mkF m 25 #[vi p1, .unset] [(.long 1000), (.int 3), (.ref b2), (.ref b2)])) rfl rfl (hb hby d44_25)
  have K14 := K11.wr W14 (Or.inr sz_b2)
  have N14 := Fr.snoc X14 N11 g_b2
  have Vw14 : Arv Z h14 b2 k2 .long (10 : Int32) [(.long 1), (.long 10), (.long 100), (.long 1000)] (.long 0) := Arv.set Ar13 q13 S13 M13 Hs13 G13 rfl W14 3 rfl (Nat.le_of_ble_eq_true rfl)
  have V15 : Arv Z h14 b2 k2 .long (10 : Int32) [(.long 1), (.long 10), (.long 100), (.long 1000), (.long 0)] (.long 0) := Vw14.pad (pad_rep [(.long 1), (.long 10), (.long 100), (.long 1000)] (.long 0) 1)
  obtain ⟨cl16, Ar16, q16, S16, M16, Hs16, G16⟩ := id V15
  have hin16 : ¬ ((4 : Int32) < 0 ∨ cl16.slots.size ≤ ((4 : Int32)).toNatClampNeg) := inb_of S16 ⟨by decide, by decide⟩
  obtain ⟨T17, h17, X17, e17, W17, st17⟩ := stJ X14 hx hZ e14 Ar16 (j := (4 : Int32)) hin16 (g := (mkF m 31 #[vi p1, .unset] [(.long 10000), (.int 4), (.ref b2), (.ref b2)])) rfl rfl (hb hby d44_31)
  have K17 := K14.wr W17 (Or.inr sz_b2)
  have N17 := Fr.snoc X17 N14 g_b2
  have Vw17 : Arv Z h17 b2 k2 .long (10 : Int32) [(.long 1), (.long 10), (.long 100), (.long 1000), (.long 10000)] (.long 0) := Arv.set Ar16 q16 S16 M16 Hs16 G16 rfl W17 4 rfl (Nat.le_of_ble_eq_true rfl)
  have V18 : Arv Z h17 b2 k2 .long (10 : Int32) [(.long 1), (.long 10), (.long 100), (.long 1000), (.long 10000), (.long 0)] (.long 0) := Vw17.pad (pad_rep [(.long 1), (.long 10), (.long 100), (.long 1000), (.long 10000)] (.long 0) 1)
  obtain ⟨cl19, Ar19, q19, S19, M19, Hs19, G19⟩ := id V18
  have hin19 : ¬ ((5 : Int32) < 0 ∨ cl19.slots.size ≤ ((5 : Int32)).toNatClampNeg) := inb_of S19 ⟨by decide, by decide⟩
  obtain ⟨T20, h20, X20, e20, W20, st20⟩ := stJ X17 hx hZ e17 Ar19 (j := (5 : Int32)) hin19 (g := (mkF m 37 #[vi p1, .unset] [(.long 100000), (.int 5), (.ref b2), (.ref b2)])) rfl rfl (hb hby d44_37)
  have K20 := K17.wr W20 (Or.inr sz_b2)
  have N20 := Fr.snoc X20 N17 g_b2
  have Vw20 : Arv Z h20 b2 k2 .long (10 : Int32) [(.long 1), (.long 10), (.long 100), (.long 1000), (.long 10000), (.long 100000)] (.long 0) := Arv.set Ar19 q19 S19 M19 Hs19 G19 rfl W20 5 rfl (Nat.le_of_ble_eq_true rfl)
  have V21 : Arv Z h20 b2 k2 .long (10 : Int32) [(.long 1), (.long 10), (.long 100), (.long 1000), (.long 10000), (.long 100000), (.long 0)] (.long 0) := Vw20.pad (pad_rep [(.long 1), (.long 10), (.long 100), (.long 1000), (.long 10000), (.long 100000)] (.long 0) 1)
  obtain ⟨cl22, Ar22, q22, S22, M22, Hs22, G22⟩ := id V21
  have hin22 : ¬ ((6 : Int32) < 0 ∨ cl22.slots.size ≤ ((6 : Int32)).toNatClampNeg) := inb_of S22 ⟨by decide, by decide⟩
  obtain ⟨T23, h23, X23, e23, W23, st23⟩ := stJ X20 hx hZ e20 Ar22 (j := (6 : Int32)) hin22 (g := (mkF m 44 #[vi p1, .unset] [(.long 1000000), (.int 6), (.ref b2), (.ref b2)])) rfl rfl (hb hby d44_44)
  have K23 := K20.wr W23 (Or.inr sz_b2)
  have N23 := Fr.snoc X23 N20 g_b2
  have Vw23 : Arv Z h23 b2 k2 .long (10 : Int32) [(.long 1), (.long 10), (.long 100), (.long 1000), (.long 10000), (.long 100000), (.long 1000000)] (.long 0) := Arv.set Ar22 q22 S22 M22 Hs22 G22 rfl W23 6 rfl (Nat.le_of_ble_eq_true rfl)
  have V24 : Arv Z h23 b2 k2 .long (10 : Int32) [(.long 1), (.long 10), (.long 100), (.long 1000), (.long 10000), (.long 100000), (.long 1000000), (.long 0)] (.long 0) := Vw23.pad (pad_rep [(.long 1), (.long 10), (.long 100), (.long 1000), (.long 10000), (.long 100000), (.long 1000000)] (.long 0) 1)
  obtain ⟨cl25, Ar25, q25, S25, M25, Hs25, G25⟩ := id V24
  have hin25 : ¬ ((7 : Int32) < 0 ∨ cl25.slots.size ≤ ((7 : Int32)).toNatClampNeg) := inb_of S25 ⟨by decide, by decide⟩
  obtain ⟨T26, h26, X26, e26, W26, st26⟩ := stJ X23 hx hZ e23 Ar25 (j := (7 : Int32)) hin25 (g := (mkF m 51 #[vi p1, .unset] [(.long 10000000), (.int 7), (.ref b2), (.ref b2)])) rfl rfl (hb hby d44_51)
  have K26 := K23.wr W26 (Or.inr sz_b2)
  have N26 := Fr.snoc X26 N23 g_b2
  have Vw26 : Arv Z h26 b2 k2 .long (10 : Int32) [(.long 1), (.long 10), (.long 100), (.long 1000), (.long 10000), (.long 100000), (.long 1000000), (.long 10000000)] (.long 0) := Arv.set Ar25 q25 S25 M25 Hs25 G25 rfl W26 7 rfl (Nat.le_of_ble_eq_true rfl)
  have V27 : Arv Z h26 b2 k2 .long (10 : Int32) [(.long 1), (.long 10), (.long 100), (.long 1000), (.long 10000), (.long 100000), (.long 1000000), (.long 10000000), (.long 0)] (.long 0) := Vw26.pad (pad_rep [(.long 1), (.long 10), (.long 100), (.long 1000), (.long 10000), (.long 100000), (.long 1000000), (.long 10000000)] (.long 0) 1)
  obtain ⟨cl28, Ar28, q28, S28, M28, Hs28, G28⟩ := id V27
  have hin28 : ¬ ((8 : Int32) < 0 ∨ cl28.slots.size ≤ ((8 : Int32)).toNatClampNeg) := inb_of S28 ⟨by decide, by decide⟩
  obtain ⟨T29, h29, X29, e29, W29, st29⟩ := stJ X26 hx hZ e26 Ar28 (j := (8 : Int32)) hin28 (g := (mkF m 58 #[vi p1, .unset] [(.long 100000000), (.int 8), (.ref b2), (.ref b2)])) rfl rfl (hb hby d44_58)
  have K29 := K26.wr W29 (Or.inr sz_b2)
  have N29 := Fr.snoc X29 N26 g_b2
  have Vw29 : Arv Z h29 b2 k2 .long (10 : Int32) [(.long 1), (.long 10), (.long 100), (.long 1000), (.long 10000), (.long 100000), (.long 1000000), (.long 10000000), (.long 100000000)] (.long 0) := Arv.set Ar28 q28 S28 M28 Hs28 G28 rfl W29 8 rfl (Nat.le_of_ble_eq_true rfl)
  have V30 : Arv Z h29 b2 k2 .long (10 : Int32) [(.long 1), (.long 10), (.long 100), (.long 1000), (.long 10000), (.long 100000), (.long 1000000), (.long 10000000), (.long 100000000), (.long 0)] (.long 0) := Vw29.pad (pad_rep [(.long 1), (.long 10), (.long 100), (.long 1000), (.long 10000), (.long 100000), (.long 1000000), (.long 10000000), (.long 100000000)] (.long 0) 1)
  obtain ⟨cl31, Ar31, q31, S31, M31, Hs31, G31⟩ := id V30
  have hin31 : ¬ ((9 : Int32) < 0 ∨ cl31.slots.size ≤ ((9 : Int32)).toNatClampNeg) := inb_of S31 ⟨by decide, by decide⟩
  obtain ⟨T32, h32, X32, e32, W32, st32⟩ := stJ X29 hx hZ e29 Ar31 (j := (9 : Int32)) hin31 (g := (mkF m 65 #[vi p1, .unset] [(.long 1000000000), (.int 9), (.ref b2), (.ref b2)])) rfl rfl (hb hby d44_65)
  have K32 := K29.wr W32 (Or.inr sz_b2)
  have N32 := Fr.snoc X32 N29 g_b2
  have Vw32 : Arv Z h32 b2 k2 .long (10 : Int32) [(.long 1), (.long 10), (.long 100), (.long 1000), (.long 10000), (.long 100000), (.long 1000000), (.long 10000000), (.long 100000000), (.long 1000000000)] (.long 0) := Arv.set Ar31 q31 S31 M31 Hs31 G31 rfl W32 9 rfl (Nat.le_of_ble_eq_true rfl)
  obtain ⟨cl35, Ar35, q35, S35, M35, Hs35, G35⟩ := id Vw32
  have hin35 : ¬ (p1 < 0 ∨ cl35.slots.size ≤ (p1).toNatClampNeg) := inb_of S35 ⟨hc33, hc34⟩
  have hat35 : cl35.slots[(p1).toNatClampNeg]? = some (.long (own_p10 p1)) := Has.at Hs35 hin35 (own_p10_at _ hc33 hc34)
  obtain ⟨fs, hr, hrun, hended, hW, hsame⟩ := X32.leave (v := some (.long (own_p10 p1))) (fun h => by rw [Bd.returns] at h; cases h)
  refine ⟨_, _, pre0 _ ?_, hrun, hended, _, _, rfl, ?_, ⟨_, rfl⟩, hW, hsame.mono (by decide) (by decide)⟩
  · show Steps p.tables e below (s₁.setTop (mkF m 0 #[vi p1, .unset] [])) _
    refine XS.bipush X0.here hx rfl (hb hby d44_0) ?_
    refine st2 _ ?_
    refine XS.dup X2.here hx rfl (hb hby d44_4) rfl rfl ?_
    refine XS.iconst X2.here hx rfl (hb hby d44_5) ?_
    refine XS.lconst X2.here hx rfl (hb hby d44_6) ?_
    refine st5 _ ?_
    refine XS.dup X5.here hx rfl (hb hby d44_8) rfl rfl ?_
    refine XS.iconst X5.here hx rfl (hb hby d44_9) ?_
    refine X5.ldc2Long hx hown (mvT hZ (W hw 186 rfl)) (g := (mkF m 10 #[vi p1, .unset] [(.int 1), (.ref b2), (.ref b2)])) rfl (hb hby d44_10) _ ?_
    refine st8 _ ?_
    show Steps p.tables e below (T8.setTop (mkF m 14 #[vi p1, .unset] [(.ref b2)])) _
    refine XS.dup X8.here hx rfl (hb hby d44_14) rfl rfl ?_
    refine XS.iconst X8.here hx rfl (hb hby d44_15) ?_
    refine X8.ldc2Long hx hown (mvT hZ (W hw 220 rfl)) (g := (mkF m 16 #[vi p1, .unset] [(.int 2), (.ref b2), (.ref b2)])) rfl (hb hby d44_16) _ ?_
    refine st11 _ ?_
    refine XS.dup X11.here hx rfl (hb hby d44_20) rfl rfl ?_
    refine XS.iconst X11.here hx rfl (hb hby d44_21) ?_
    refine X11.ldc2Long hx hown (mvT hZ (W hw 221 rfl)) (g := (mkF m 22 #[vi p1, .unset] [(.int 3), (.ref b2), (.ref b2)])) rfl (hb hby d44_22) _ ?_
    refine st14 _ ?_
    refine XS.dup X14.here hx rfl (hb hby d44_26) rfl rfl ?_
    refine XS.iconst X14.here hx rfl (hb hby d44_27) ?_
    show Steps p.tables e below (T14.setTop (mkF m 28 #[vi p1, .unset] [(.int 4), (.ref b2), (.ref b2)])) _
    refine X14.ldc2Long hx hown (mvT hZ (W hw 222 rfl)) (g := (mkF m 28 #[vi p1, .unset] [(.int 4), (.ref b2), (.ref b2)])) rfl (hb hby d44_28) _ ?_
    refine st17 _ ?_
    refine XS.dup X17.here hx rfl (hb hby d44_32) rfl rfl ?_
    refine XS.iconst X17.here hx rfl (hb hby d44_33) ?_
    refine X17.ldc2Long hx hown (mvT hZ (W hw 223 rfl)) (g := (mkF m 34 #[vi p1, .unset] [(.int 5), (.ref b2), (.ref b2)])) rfl (hb hby d44_34) _ ?_
    refine st20 _ ?_
    refine XS.dup X20.here hx rfl (hb hby d44_38) rfl rfl ?_
    refine XS.bipush X20.here hx rfl (hb hby d44_39) ?_
    refine X20.ldc2Long hx hown (mvT hZ (W hw 224 rfl)) (g := (mkF m 41 #[vi p1, .unset] [(.int 6), (.ref b2), (.ref b2)])) rfl (hb hby d44_41) _ ?_
    refine st23 _ ?_
    show Steps p.tables e below (T23.setTop (mkF m 45 #[vi p1, .unset] [(.ref b2)])) _
    refine XS.dup X23.here hx rfl (hb hby d44_45) rfl rfl ?_
    refine XS.bipush X23.here hx rfl (hb hby d44_46) ?_
    refine X23.ldc2Long hx hown (mvT hZ (W hw 225 rfl)) (g := (mkF m 48 #[vi p1, .unset] [(.int 7), (.ref b2), (.ref b2)])) rfl (hb hby d44_48) _ ?_
    refine st26 _ ?_
    refine XS.dup X26.here hx rfl (hb hby d44_52) rfl rfl ?_
    refine XS.bipush X26.here hx rfl (hb hby d44_53) ?_
    refine X26.ldc2Long hx hown (mvT hZ (W hw 226 rfl)) (g := (mkF m 55 #[vi p1, .unset] [(.int 8), (.ref b2), (.ref b2)])) rfl (hb hby d44_55) _ ?_
    refine st29 _ ?_
    refine XS.dup X29.here hx rfl (hb hby d44_59) rfl rfl ?_
    refine XS.bipush X29.here hx rfl (hb hby d44_60) ?_
    show Steps p.tables e below (T29.setTop (mkF m 62 #[vi p1, .unset] [(.int 9), (.ref b2), (.ref b2)])) _
    refine X29.ldc2Long hx hown (mvT hZ (W hw 227 rfl)) (g := (mkF m 62 #[vi p1, .unset] [(.int 9), (.ref b2), (.ref b2)])) rfl (hb hby d44_62) _ ?_
    refine st32 _ ?_
    refine XS.astoreN X32.here hx rfl (hb hby d44_66) rfl rfl (l' := #[vi p1, vr b2]) rfl ?_
    refine XS.aloadN X32.here hx rfl (hb hby d44_67) rfl rfl ?_
    refine XS.iloadN X32.here hx rfl (hb hby d44_68) rfl ?_
    refine X32.laload hx (j := p1) (v := (.long (own_p10 p1))) (by rw [e32]; exact Ar35.1) (State.isArrayOf_alike hZ.alike Ar35.2.1) Ar35.2.2 hin35 hat35 (g := (mkF m 69 #[vi p1, vr b2] [(.int p1), (.ref b2)])) rfl rfl (hb hby d44_69) _ ?_
    exact X32.lreturnOut hx Bd.returns (hb hby d44_70) hr
  · show Qrm44 Z p1 h0 n0 _ T32.heap _
    rw [e32]
    exact ⟨rfl, N32, K32⟩
theorem pd_38 : parseMethodDescriptor "(I)J" = some ⟨[.int], some .long⟩ := by decide +kernel
theorem d43_63 : decode method_5_code 63 = .ok (.ldiv, 1) := by decide +kernel
theorem d43_64 : decode method_5_code 64 = .ok (.ldc2_w 41, 3) := by decide +kernel
theorem d43_67 : decode method_5_code 67 = .ok (.lrem, 1) := by decide +kernel
theorem d43_68 : decode method_5_code 68 = .ok (.lstore 10, 2) := by decide +kernel
theorem d43_70 : decode method_5_code 70 = .ok (.ldc2_w 63, 3) := by decide +kernel
theorem d43_73 : decode method_5_code 73 = .ok (.lload 10, 2) := by decide +kernel
theorem d43_75 : decode method_5_code 75 = .ok (.ladd, 1) := by decide +kernel
theorem d43_76 : decode method_5_code 76 = .ok (.l2i, 1) := by decide +kernel
theorem d43_77 : decode method_5_code 77 = .ok (.i2c, 1) := by decide +kernel
theorem d43_78 : decode method_5_code 78 = .ok (.ireturn, 1) := by decide +kernel
theorem ef_43_IIIIIIIJ (m : MethodId) (x0 : Int32) (x1 : Int32) (x2 : Int32) (x3 : Int32) (x4 : Int32) (x5 : Int32) (x6 : Int32) (x7 : Int64) : entryFrame m #[(.int x0), (.int x1), (.int x2), (.int x3), (.int x4), (.int x5), (.int x6), (.long x7)] 12 = mkF m 0 #[vi x0, vi x1, vi x2, vi x3, vi x4, vi x5, vi x6, .val (.long x7), .second, .unset, .unset, .unset] [] := by first | (simp [entryFrame, mkF, argsToLocals, Value.category]; done) | rfl
def Qrm43 (Z : State) (p1 : Int32) (p2 : Int32) (p3 : Int32) (p4 : Int32) (p5 : Int32) (p6 : Int32) (p7 : Int32) (q8 : Int64) (h0 : Heap) (n0 : Nat) (v : Option Value) (h : Heap) (L : List Loc) : Prop := v = some (.int (own_exp p1 p2 p3 p4 p5 p6 p7 q8)) ∧ Fr n0 L ∧ Keep h0 h []
set_option maxRecDepth 65536 in
set_option maxHeartbeats 40000000 in
theorem rm43 (l : Launch) (Z : State) (a0 : Array Value) (hw : ∀ d ∈ tables_1, d.before a0 Z = true) (ws : List Jvm.Cond) (p1 : Int32) (p2 : Int32) (p3 : Int32) (p4 : Int32) (p5 : Int32) (p6 : Int32) (p7 : Int32) (q8 : Int64) (h0 : Heap) (n0 : Nat) (O0 : Old Z n0 h0) (hk1 : ¬ (p1 < p5) → p6 = (1 : Int32) → ¬ ((p1 - p5) = (0 : Int32)) → ¬ (((p7 - (1 : Int32)) - ((p1 - p5) - (1 : Int32))) < (0 : Int32)) ∧ ((p7 - (1 : Int32)) - ((p1 - p5) - (1 : Int32))) < (10 : Int32)) (hk0 : ¬ (p1 < p5) → ¬ (p6 = (1 : Int32)) → ¬ (((p7 - (1 : Int32)) - (p1 - p5)) < (0 : Int32)) ∧ ((p7 - (1 : Int32)) - (p1 - p5)) < (10 : Int32)) :
    MF l Z h0 (⟨"com/example/tight_bound/tightbound/HeapObjectToStringPinLaw", "expected", "(ICCCIIIJ)C"⟩ : MethodName) method_5_code 12 (some .char) ws (⟨1, 1, 10, 15⟩ : Room) #[(.int p1), (.int p2), (.int p3), (.int p4), (.int p5), (.int p6), (.int p7), (.long q8)] (Qrm43 Z p1 p2 p3 p4 p5 p6 p7 q8 h0 n0) := by
  refine MetFree.of_bodySF (plainFor_of_name pn_31) hisR ?_
  intro p e s m args below meth c s₁ Bd hml0 hP hK
  obtain ⟨rfl, hZ, hh⟩ := hP
  have hx := Bd.exec
  have hby := Bd.bytes
  have hml : c.maxLocals = 12 := hml0
  have hown : s.vm.findClass "com/example/tight_bound/tightbound/HeapObjectToStringPinLaw" = some m.cls := findClass_of_methodNamed Bd.named
  have X0 : Stand p l e (⟨1, 1, 10, 15⟩ : Room) s m #[(.int p1), (.int p2), (.int p3), (.int p4), (.int p5), (.int p6), (.int p7), (.long q8)] below meth c s₁ [] 0 0 := Stand.of_body Bd
  have e0 : s₁.heap = h0 := by rw [← hh, Bd.state]; rfl
  have N0 := Fr.nil n0
  have pre0 : ∀ t, Steps p.tables e below (s₁.setTop (mkF m 0 #[vi p1, vi p2, vi p3, vi p4, vi p5, vi p6, vi p7, .val (.long q8), .second, .unset, .unset, .unset] [])) t → Steps p.tables e below (s₁.setTop (entryFrame m #[(.int p1), (.int p2), (.int p3), (.int p4), (.int p5), (.int p6), (.int p7), (.long q8)] 12)) t := fun t k => castTop (ef_43_IIIIIIIJ m p1 p2 p3 p4 p5 p6 p7 q8) k
  by_cases h1 : p1 < p5
  · by_cases h2 : p1 = (0 : Int32)
    · obtain ⟨fs, hr, hrun, hended, hW, hsame⟩ := X0.leave (v := some (.int (nar .char p2))) (fun h => by rw [Bd.returns] at h; cases h)
      refine ⟨_, _, pre0 _ ?_, hrun, hended, _, _, rfl, ?_, ⟨_, rfl⟩, hW, hsame.mono (by decide) (by decide)⟩
      · show Steps p.tables e below (s₁.setTop (mkF m 0 #[vi p1, vi p2, vi p3, vi p4, vi p5, vi p6, vi p7, .val (.long q8), .second, .unset, .unset, .unset] [])) _
        refine XS.iloadN X0.here hx rfl (hb hby d43_0) rfl ?_
        refine XS.iload X0.here hx rfl (hb hby d43_1) rfl ?_
        refine XS.icmpNo X0.here hx rfl (hb hby d43_3) rfl (tlt (h1 : p1 < p5)).2.1 ?_
        refine XS.iloadN X0.here hx rfl (hb hby d43_6) rfl ?_
        refine XS.ifNo X0.here hx rfl (hb hby d43_7) rfl ((if0 _ _).trans (teq (h2 : p1 = (0 : Int32))).2) ?_
        refine XS.iloadN X0.here hx rfl (hb hby d43_10) rfl ?_
        refine XS.goto X0.here hx rfl (pc0 := 11) (pc' := 24) rfl (hb hby d43_11) (by decide) (by decide) ?_
        exact retN X0 hx (t := .char) Bd.returns (by simp) (hb hby d43_24) hr
      · show Qrm43 Z p1 p2 p3 p4 p5 p6 p7 q8 h0 n0 _ s₁.heap _
        rw [e0]
        exact ⟨(by rw [own_exp, if_pos h1, if_pos h2]), N0, (Keep.refl h0 [])⟩
    · by_cases h3 : p1 = (1 : Int32)
      · obtain ⟨fs, hr, hrun, hended, hW, hsame⟩ := X0.leave (v := some (.int (nar .char p3))) (fun h => by rw [Bd.returns] at h; cases h)
        refine ⟨_, _, pre0 _ ?_, hrun, hended, _, _, rfl, ?_, ⟨_, rfl⟩, hW, hsame.mono (by decide) (by decide)⟩
        · show Steps p.tables e below (s₁.setTop (mkF m 0 #[vi p1, vi p2, vi p3, vi p4, vi p5, vi p6, vi p7, .val (.long q8), .second, .unset, .unset, .unset] [])) _
          refine XS.iloadN X0.here hx rfl (hb hby d43_0) rfl ?_
          refine XS.iload X0.here hx rfl (hb hby d43_1) rfl ?_
          refine XS.icmpNo X0.here hx rfl (hb hby d43_3) rfl (tlt (h1 : p1 < p5)).2.1 ?_
          refine XS.iloadN X0.here hx rfl (hb hby d43_6) rfl ?_
          refine XS.ifYes X0.here hx rfl (pc0 := 7) (pc' := 14) rfl (hb hby d43_7) rfl ((if0 _ _).trans (feq (h2 : ¬ (p1 = (0 : Int32)))).2) (by decide) (by decide) ?_
          refine XS.iloadN X0.here hx rfl (hb hby d43_14) rfl ?_
          refine XS.iconst X0.here hx rfl (hb hby d43_15) ?_
          refine XS.icmpNo X0.here hx rfl (hb hby d43_16) rfl (teq (h3 : p1 = (1 : Int32))).2 ?_
          refine XS.iloadN X0.here hx rfl (hb hby d43_19) rfl ?_
          refine XS.goto X0.here hx rfl (pc0 := 20) (pc' := 24) rfl (hb hby d43_20) (by decide) (by decide) ?_
          show Steps p.tables e below (s₁.setTop (mkF m 24 #[vi p1, vi p2, vi p3, vi p4, vi p5, vi p6, vi p7, .val (.long q8), .second, .unset, .unset, .unset] [(.int p3)])) _
          exact retN X0 hx (t := .char) Bd.returns (by simp) (hb hby d43_24) hr
        · show Qrm43 Z p1 p2 p3 p4 p5 p6 p7 q8 h0 n0 _ s₁.heap _
          rw [e0]
          exact ⟨(by rw [own_exp, if_pos h1, if_neg h2, if_pos h3]), N0, (Keep.refl h0 [])⟩
      · obtain ⟨fs, hr, hrun, hended, hW, hsame⟩ := X0.leave (v := some (.int (nar .char p4))) (fun h => by rw [Bd.returns] at h; cases h)
        refine ⟨_, _, pre0 _ ?_, hrun, hended, _, _, rfl, ?_, ⟨_, rfl⟩, hW, hsame.mono (by decide) (by decide)⟩
        · show Steps p.tables e below (s₁.setTop (mkF m 0 #[vi p1, vi p2, vi p3, vi p4, vi p5, vi p6, vi p7, .val (.long q8), .second, .unset, .unset, .unset] [])) _
          refine XS.iloadN X0.here hx rfl (hb hby d43_0) rfl ?_
          refine XS.iload X0.here hx rfl (hb hby d43_1) rfl ?_
          refine XS.icmpNo X0.here hx rfl (hb hby d43_3) rfl (tlt (h1 : p1 < p5)).2.1 ?_
          refine XS.iloadN X0.here hx rfl (hb hby d43_6) rfl ?_
          refine XS.ifYes X0.here hx rfl (pc0 := 7) (pc' := 14) rfl (hb hby d43_7) rfl ((if0 _ _).trans (feq (h2 : ¬ (p1 = (0 : Int32)))).2) (by decide) (by decide) ?_
          refine XS.iloadN X0.here hx rfl (hb hby d43_14) rfl ?_
          refine XS.iconst X0.here hx rfl (hb hby d43_15) ?_
          refine XS.icmpYes X0.here hx rfl (pc0 := 16) (pc' := 23) rfl (hb hby d43_16) rfl (feq (h3 : ¬ (p1 = (1 : Int32)))).2 (by decide) (by decide) ?_
          refine XS.iloadN X0.here hx rfl (hb hby d43_23) rfl ?_
          exact retN X0 hx (t := .char) Bd.returns (by simp) (hb hby d43_24) hr
        · show Qrm43 Z p1 p2 p3 p4 p5 p6 p7 q8 h0 n0 _ s₁.heap _
          rw [e0]
          exact ⟨(by rw [own_exp, if_pos h1, if_neg h2, if_neg h3]), N0, (Keep.refl h0 [])⟩
  · by_cases h4 : p6 = (1 : Int32)
    · by_cases h5 : (p1 - p5) = (0 : Int32)
      · obtain ⟨fs, hr, hrun, hended, hW, hsame⟩ := X0.leave (v := some (.int 45)) (fun h => by rw [Bd.returns] at h; cases h)
        refine ⟨_, _, pre0 _ ?_, hrun, hended, _, _, rfl, ?_, ⟨_, rfl⟩, hW, hsame.mono (by decide) (by decide)⟩
        · show Steps p.tables e below (s₁.setTop (mkF m 0 #[vi p1, vi p2, vi p3, vi p4, vi p5, vi p6, vi p7, .val (.long q8), .second, .unset, .unset, .unset] [])) _
          refine XS.iloadN X0.here hx rfl (hb hby d43_0) rfl ?_
          refine XS.iload X0.here hx rfl (hb hby d43_1) rfl ?_
          refine XS.icmpYes X0.here hx rfl (pc0 := 3) (pc' := 25) rfl (hb hby d43_3) rfl (flt (h1 : ¬ (p1 < p5))).2.1 (by decide) (by decide) ?_
          refine XS.iloadN X0.here hx rfl (hb hby d43_25) rfl ?_
          refine XS.iload X0.here hx rfl (hb hby d43_26) rfl ?_
          refine XS.isub X0.here hx rfl (hb hby d43_28) rfl ?_
          refine XS.istore X0.here hx rfl (hb hby d43_29) rfl (l' := #[vi p1, vi p2, vi p3, vi p4, vi p5, vi p6, vi p7, .val (.long q8), .second, vi (p1 - p5), .unset, .unset]) rfl ?_
          refine XS.iload X0.here hx rfl (hb hby d43_31) rfl ?_
          refine XS.iconst X0.here hx rfl (hb hby d43_33) ?_
          refine XS.icmpNo X0.here hx rfl (hb hby d43_34) rfl (teq (h4 : p6 = (1 : Int32))).2 ?_
          show Steps p.tables e below (s₁.setTop (mkF m 37 #[vi p1, vi p2, vi p3, vi p4, vi p5, vi p6, vi p7, .val (.long q8), .second, vi (p1 - p5), .unset, .unset] [])) _
          refine XS.iload X0.here hx rfl (hb hby d43_37) rfl ?_
          refine XS.ifNo X0.here hx rfl (hb hby d43_39) rfl ((if0 _ _).trans (teq (h5 : (p1 - p5) = (0 : Int32))).2) ?_
          refine XS.bipush X0.here hx rfl (hb hby d43_42) ?_
          exact retN X0 hx (t := .char) Bd.returns (by simp) (hb hby d43_44) hr
        · show Qrm43 Z p1 p2 p3 p4 p5 p6 p7 q8 h0 n0 _ s₁.heap _
          rw [e0]
          exact ⟨(by rw [own_exp, if_neg h1, if_pos h4, if_pos h5]), N0, (Keep.refl h0 [])⟩
      · obtain ⟨_, T9, L9, X9, hQ9, st9⟩ := cS X0 hx hZ hown (W hw 216 rfl) (W hw 217 rfl) (W hw 184 rfl) (W hw 218 rfl) (by decide) (rm44 l Z a0 hw [] ((p7 - (1 : Int32)) - ((p1 - p5) - (1 : Int32))) h0 n0 O0 (hk1 h1 h4 h5).1 (hk1 h1 h4 h5).2) e0 #[vi p1, vi p2, vi p3, vi p4, vi p5, vi p6, vi p7, .val (.long q8), .second, vi ((p1 - p5) - (1 : Int32)), .unset, .unset] [(.long q8)] (by rw [hml]; rfl) (hb hby d43_60) pd_38 rfl (W := 2) (Nat.le_of_eq rfl) (by decide) (by decide) (by decide) (by decide)
        obtain ⟨rfl, Nq9, K9⟩ := hQ9
        have N9 := Fr.app N0 Nq9
        have KK9 := Keep.trans (h := h0) (Keep.refl h0 []) K9 all0
        obtain ⟨fs, hr, hrun, hended, hW, hsame⟩ := X9.leave (v := some (.int (nar .char ((((48 : Int64) + ((q8 / (own_p10 ((p7 - (1 : Int32)) - ((p1 - p5) - (1 : Int32))))) - ((q8 / (own_p10 ((p7 - (1 : Int32)) - ((p1 - p5) - (1 : Int32))))) / (10 : Int64)) * (10 : Int64))).toInt32).toUInt32.toUInt16.toUInt32.toInt32)))) (fun h => by rw [Bd.returns] at h; cases h)
        refine ⟨_, _, pre0 _ ?_, hrun, hended, _, _, rfl, ?_, ⟨_, rfl⟩, hW, hsame.mono (by decide) (by decide)⟩
        · show Steps p.tables e below (s₁.setTop (mkF m 0 #[vi p1, vi p2, vi p3, vi p4, vi p5, vi p6, vi p7, .val (.long q8), .second, .unset, .unset, .unset] [])) _
          refine XS.iloadN X0.here hx rfl (hb hby d43_0) rfl ?_
          refine XS.iload X0.here hx rfl (hb hby d43_1) rfl ?_
          refine XS.icmpYes X0.here hx rfl (pc0 := 3) (pc' := 25) rfl (hb hby d43_3) rfl (flt (h1 : ¬ (p1 < p5))).2.1 (by decide) (by decide) ?_
          refine XS.iloadN X0.here hx rfl (hb hby d43_25) rfl ?_
          refine XS.iload X0.here hx rfl (hb hby d43_26) rfl ?_
          refine XS.isub X0.here hx rfl (hb hby d43_28) rfl ?_
          refine XS.istore X0.here hx rfl (hb hby d43_29) rfl (l' := #[vi p1, vi p2, vi p3, vi p4, vi p5, vi p6, vi p7, .val (.long q8), .second, vi (p1 - p5), .unset, .unset]) rfl ?_
          refine XS.iload X0.here hx rfl (hb hby d43_31) rfl ?_
          refine XS.iconst X0.here hx rfl (hb hby d43_33) ?_
          refine XS.icmpNo X0.here hx rfl (hb hby d43_34) rfl (teq (h4 : p6 = (1 : Int32))).2 ?_
          show Steps p.tables e below (s₁.setTop (mkF m 37 #[vi p1, vi p2, vi p3, vi p4, vi p5, vi p6, vi p7, .val (.long q8), .second, vi (p1 - p5), .unset, .unset] [])) _
          refine XS.iload X0.here hx rfl (hb hby d43_37) rfl ?_
          refine XS.ifYes X0.here hx rfl (pc0 := 39) (pc' := 45) rfl (hb hby d43_39) rfl ((if0 _ _).trans (feq (h5 : ¬ ((p1 - p5) = (0 : Int32)))).2) (by decide) (by decide) ?_
          refine XS.iload X0.here hx rfl (hb hby d43_45) rfl ?_
          refine XS.iconst X0.here hx rfl (hb hby d43_47) ?_
          refine XS.isub X0.here hx rfl (hb hby d43_48) rfl ?_
          refine XS.istore X0.here hx rfl (hb hby d43_49) rfl (l' := #[vi p1, vi p2, vi p3, vi p4, vi p5, vi p6, vi p7, .val (.long q8), .second, vi ((p1 - p5) - (1 : Int32)), .unset, .unset]) rfl ?_
          refine XS.lload X0.here hx rfl (hb hby d43_51) rfl ?_
          refine XS.iload X0.here hx rfl (hb hby d43_53) rfl ?_
          refine XS.iconst X0.here hx rfl (hb hby d43_55) ?_
          refine XS.isub X0.here hx rfl (hb hby d43_56) rfl ?_
          show Steps p.tables e below (s₁.setTop (mkF m 57 #[vi p1, vi p2, vi p3, vi p4, vi p5, vi p6, vi p7, .val (.long q8), .second, vi ((p1 - p5) - (1 : Int32)), .unset, .unset] [(.int (p7 - (1 : Int32))), (.long q8)])) _
          refine XS.iload X0.here hx rfl (hb hby d43_57) rfl ?_
          refine XS.isub X0.here hx rfl (hb hby d43_59) rfl ?_
          refine st9 _ ?_
          refine XS.ldiv X9.here hx rfl (hb hby d43_63) rfl (own_p10_ne _) ?_
          refine X9.ldc2Long hx hown (mvT hZ (W hw 186 rfl)) (g := (mkF m 64 #[vi p1, vi p2, vi p3, vi p4, vi p5, vi p6, vi p7, .val (.long q8), .second, vi ((p1 - p5) - (1 : Int32)), .unset, .unset] [(.long (q8 / (own_p10 ((p7 - (1 : Int32)) - ((p1 - p5) - (1 : Int32))))))])) rfl (hb hby d43_64) _ ?_
          refine XS.lrem X9.here hx rfl (hb hby d43_67) rfl (by decide) ?_
          refine XS.lstore X9.here hx rfl (hb hby d43_68) rfl (l' := #[vi p1, vi p2, vi p3, vi p4, vi p5, vi p6, vi p7, .val (.long q8), .second, vi ((p1 - p5) - (1 : Int32)), .val (.long ((q8 / (own_p10 ((p7 - (1 : Int32)) - ((p1 - p5) - (1 : Int32))))) - ((q8 / (own_p10 ((p7 - (1 : Int32)) - ((p1 - p5) - (1 : Int32))))) / (10 : Int64)) * (10 : Int64))), .second]) rfl ?_
          refine X9.ldc2Long hx hown (mvT hZ (W hw 228 rfl)) (g := (mkF m 70 #[vi p1, vi p2, vi p3, vi p4, vi p5, vi p6, vi p7, .val (.long q8), .second, vi ((p1 - p5) - (1 : Int32)), .val (.long ((q8 / (own_p10 ((p7 - (1 : Int32)) - ((p1 - p5) - (1 : Int32))))) - ((q8 / (own_p10 ((p7 - (1 : Int32)) - ((p1 - p5) - (1 : Int32))))) / (10 : Int64)) * (10 : Int64))), .second] [])) rfl (hb hby d43_70) _ ?_
          refine XS.lload X9.here hx rfl (hb hby d43_73) rfl ?_
          refine XS.ladd X9.here hx rfl (hb hby d43_75) rfl ?_
          show Steps p.tables e below (T9.setTop (mkF m 76 #[vi p1, vi p2, vi p3, vi p4, vi p5, vi p6, vi p7, .val (.long q8), .second, vi ((p1 - p5) - (1 : Int32)), .val (.long ((q8 / (own_p10 ((p7 - (1 : Int32)) - ((p1 - p5) - (1 : Int32))))) - ((q8 / (own_p10 ((p7 - (1 : Int32)) - ((p1 - p5) - (1 : Int32))))) / (10 : Int64)) * (10 : Int64))), .second] [(.long ((48 : Int64) + ((q8 / (own_p10 ((p7 - (1 : Int32)) - ((p1 - p5) - (1 : Int32))))) - ((q8 / (own_p10 ((p7 - (1 : Int32)) - ((p1 - p5) - (1 : Int32))))) / (10 : Int64)) * (10 : Int64))))])) _
          refine XS.l2i X9.here hx rfl (hb hby d43_76) rfl ?_
          refine XS.i2c X9.here hx rfl (hb hby d43_77) rfl ?_
          exact retN X9 hx (t := .char) Bd.returns (by simp) (hb hby d43_78) hr
        · show Qrm43 Z p1 p2 p3 p4 p5 p6 p7 q8 h0 n0 _ T9.heap _
          exact ⟨(by rw [own_exp, if_neg h1, if_pos h4, if_neg h5, own_xd]), N9, KK9⟩
    · obtain ⟨_, T10, L10, X10, hQ10, st10⟩ := cS X0 hx hZ hown (W hw 216 rfl) (W hw 217 rfl) (W hw 184 rfl) (W hw 218 rfl) (by decide) (rm44 l Z a0 hw [] ((p7 - (1 : Int32)) - (p1 - p5)) h0 n0 O0 (hk0 h1 h4).1 (hk0 h1 h4).2) e0 #[vi p1, vi p2, vi p3, vi p4, vi p5, vi p6, vi p7, .val (.long q8), .second, vi (p1 - p5), .unset, .unset] [(.long q8)] (by rw [hml]; rfl) (hb hby d43_60) pd_38 rfl (W := 2) (Nat.le_of_eq rfl) (by decide) (by decide) (by decide) (by decide)
      obtain ⟨rfl, Nq10, K10⟩ := hQ10
      have N10 := Fr.app N0 Nq10
      have KK10 := Keep.trans (h := h0) (Keep.refl h0 []) K10 all0
      obtain ⟨fs, hr, hrun, hended, hW, hsame⟩ := X10.leave (v := some (.int (nar .char ((((48 : Int64) + ((q8 / (own_p10 ((p7 - (1 : Int32)) - (p1 - p5)))) - ((q8 / (own_p10 ((p7 - (1 : Int32)) - (p1 - p5)))) / (10 : Int64)) * (10 : Int64))).toInt32).toUInt32.toUInt16.toUInt32.toInt32)))) (fun h => by rw [Bd.returns] at h; cases h)
      refine ⟨_, _, pre0 _ ?_, hrun, hended, _, _, rfl, ?_, ⟨_, rfl⟩, hW, hsame.mono (by decide) (by decide)⟩
      · show Steps p.tables e below (s₁.setTop (mkF m 0 #[vi p1, vi p2, vi p3, vi p4, vi p5, vi p6, vi p7, .val (.long q8), .second, .unset, .unset, .unset] [])) _
        refine XS.iloadN X0.here hx rfl (hb hby d43_0) rfl ?_
        refine XS.iload X0.here hx rfl (hb hby d43_1) rfl ?_
        refine XS.icmpYes X0.here hx rfl (pc0 := 3) (pc' := 25) rfl (hb hby d43_3) rfl (flt (h1 : ¬ (p1 < p5))).2.1 (by decide) (by decide) ?_
        refine XS.iloadN X0.here hx rfl (hb hby d43_25) rfl ?_
        refine XS.iload X0.here hx rfl (hb hby d43_26) rfl ?_
        refine XS.isub X0.here hx rfl (hb hby d43_28) rfl ?_
        refine XS.istore X0.here hx rfl (hb hby d43_29) rfl (l' := #[vi p1, vi p2, vi p3, vi p4, vi p5, vi p6, vi p7, .val (.long q8), .second, vi (p1 - p5), .unset, .unset]) rfl ?_
        refine XS.iload X0.here hx rfl (hb hby d43_31) rfl ?_
        refine XS.iconst X0.here hx rfl (hb hby d43_33) ?_
        refine XS.icmpYes X0.here hx rfl (pc0 := 34) (pc' := 51) rfl (hb hby d43_34) rfl (feq (h4 : ¬ (p6 = (1 : Int32)))).2 (by decide) (by decide) ?_
        show Steps p.tables e below (s₁.setTop (mkF m 51 #[vi p1, vi p2, vi p3, vi p4, vi p5, vi p6, vi p7, .val (.long q8), .second, vi (p1 - p5), .unset, .unset] [])) _
        refine XS.lload X0.here hx rfl (hb hby d43_51) rfl ?_
        refine XS.iload X0.here hx rfl (hb hby d43_53) rfl ?_
        refine XS.iconst X0.here hx rfl (hb hby d43_55) ?_
        refine XS.isub X0.here hx rfl (hb hby d43_56) rfl ?_
        refine XS.iload X0.here hx rfl (hb hby d43_57) rfl ?_
        refine XS.isub X0.here hx rfl (hb hby d43_59) rfl ?_
        refine st10 _ ?_
        refine XS.ldiv X10.here hx rfl (hb hby d43_63) rfl (own_p10_ne _) ?_
        refine X10.ldc2Long hx hown (mvT hZ (W hw 186 rfl)) (g := (mkF m 64 #[vi p1, vi p2, vi p3, vi p4, vi p5, vi p6, vi p7, .val (.long q8), .second, vi (p1 - p5), .unset, .unset] [(.long (q8 / (own_p10 ((p7 - (1 : Int32)) - (p1 - p5)))))])) rfl (hb hby d43_64) _ ?_
        refine XS.lrem X10.here hx rfl (hb hby d43_67) rfl (by decide) ?_
        show Steps p.tables e below (T10.setTop (mkF m 68 #[vi p1, vi p2, vi p3, vi p4, vi p5, vi p6, vi p7, .val (.long q8), .second, vi (p1 - p5), .unset, .unset] [(.long ((q8 / (own_p10 ((p7 - (1 : Int32)) - (p1 - p5)))) - ((q8 / (own_p10 ((p7 - (1 : Int32)) - (p1 - p5)))) / (10 : Int64)) * (10 : Int64)))])) _
        refine XS.lstore X10.here hx rfl (hb hby d43_68) rfl (l' := #[vi p1, vi p2, vi p3, vi p4, vi p5, vi p6, vi p7, .val (.long q8), .second, vi (p1 - p5), .val (.long ((q8 / (own_p10 ((p7 - (1 : Int32)) - (p1 - p5)))) - ((q8 / (own_p10 ((p7 - (1 : Int32)) - (p1 - p5)))) / (10 : Int64)) * (10 : Int64))), .second]) rfl ?_
        refine X10.ldc2Long hx hown (mvT hZ (W hw 228 rfl)) (g := (mkF m 70 #[vi p1, vi p2, vi p3, vi p4, vi p5, vi p6, vi p7, .val (.long q8), .second, vi (p1 - p5), .val (.long ((q8 / (own_p10 ((p7 - (1 : Int32)) - (p1 - p5)))) - ((q8 / (own_p10 ((p7 - (1 : Int32)) - (p1 - p5)))) / (10 : Int64)) * (10 : Int64))), .second] [])) rfl (hb hby d43_70) _ ?_
        refine XS.lload X10.here hx rfl (hb hby d43_73) rfl ?_
        refine XS.ladd X10.here hx rfl (hb hby d43_75) rfl ?_
        refine XS.l2i X10.here hx rfl (hb hby d43_76) rfl ?_
        refine XS.i2c X10.here hx rfl (hb hby d43_77) rfl ?_
        exact retN X10 hx (t := .char) Bd.returns (by simp) (hb hby d43_78) hr
      · show Qrm43 Z p1 p2 p3 p4 p5 p6 p7 q8 h0 n0 _ T10.heap _
        exact ⟨(by rw [own_exp, if_neg h1, if_neg h4, own_xd]), N10, KK10⟩
theorem pd_39 : parseMethodDescriptor "(ICCCIIIJ)C" = some ⟨[.int, .char, .char, .char, .int, .int, .int, .long], some .char⟩ := by decide +kernel
theorem d37_31 : decode method_6_code 31 = .ok (.if_icmp .ne 7, 3) := by decide +kernel
theorem d37_34 : decode method_6_code 34 = .ok (.iconst 1, 1) := by decide +kernel
theorem d37_35 : decode method_6_code 35 = .ok (.goto 4, 3) := by decide +kernel
theorem d37_39 : decode method_6_code 39 = .ok (.ireturn, 1) := by decide +kernel
theorem ef_37_RIIIIIIIJ (m : MethodId) (x0 : Addr) (x1 : Int32) (x2 : Int32) (x3 : Int32) (x4 : Int32) (x5 : Int32) (x6 : Int32) (x7 : Int32) (x8 : Int64) : entryFrame m #[(.ref x0), (.int x1), (.int x2), (.int x3), (.int x4), (.int x5), (.int x6), (.int x7), (.long x8)] 10 = mkF m 0 #[vr x0, vi x1, vi x2, vi x3, vi x4, vi x5, vi x6, vi x7, .val (.long x8), .second] [] := by first | (simp [entryFrame, mkF, argsToLocals, Value.category]; done) | rfl
def Qrm37 (Z : State) (a1 : Addr) (p2 : Int32) (p3 : Int32) (p4 : Int32) (p5 : Int32) (p6 : Int32) (p7 : Int32) (p8 : Int32) (q9 : Int64) (a11 : Addr) (k13 : ClassId) (p14 : Int32) (k15 : (Nat → Int32)) (p17 : Int32) (h0 : Heap) (n0 : Nat) (v : Option Value) (h : Heap) (L : List Loc) : Prop := v = some (.int (1 : Int32)) ∧ Fr n0 L ∧ Keep h0 h []
set_option maxRecDepth 65536 in
set_option maxHeartbeats 40000000 in
theorem rm37 (l : Launch) (Z : State) (a0 : Array Value) (hw : ∀ d ∈ tables_1, d.before a0 Z = true) (ws : List Jvm.Cond) (a1 : Addr) (p2 : Int32) (p3 : Int32) (p4 : Int32) (p5 : Int32) (p6 : Int32) (p7 : Int32) (p8 : Int32) (q9 : Int64) (a11 : Addr) (k13 : ClassId) (p14 : Int32) (k15 : (Nat → Int32)) (p17 : Int32) (h0 : Heap) (n0 : Nat) (O0 : Old Z n0 h0) (E_10 : Exa Z h0 a1 "java/lang/String") (F_12 : Fld Z h0 a1 "java/lang/String" "value" "[B" (.ref a11)) (V_16 : Arv Z h0 a11 k13 .byte p14 (own_bs k15) (.int 0)) (S_18 : Sta Z Z.heap "java/lang/String" "COMPACT_STRINGS" "Z" (.int p17)) (hc19 : ¬ (p17 = (0 : Int32))) (F_20 : Fld Z h0 a1 "java/lang/String" "coder" "B" (.int 0)) (hu : own_OK p14 k15 p3 p4 p5 p6 p7 p8 q9 p2) (T_23 : own_SF Z) (hc24 : ¬ (p2 < (0 : Int32))) (hc25 : p2 < (16 : Int32)) :
    MF l Z h0 (⟨"com/example/tight_bound/tightbound/HeapObjectToStringPinLaw", "at", "(Ljava/lang/String;ICCCIIIJ)Z"⟩ : MethodName) method_6_code 10 (some .boolean) ws (⟨4, 1, 10, 53⟩ : Room) #[(.ref a1), (.int p2), (.int p3), (.int p4), (.int p5), (.int p6), (.int p7), (.int p8), (.long q9)] (Qrm37 Z a1 p2 p3 p4 p5 p6 p7 p8 q9 a11 k13 p14 k15 p17 h0 n0) := by
  refine MetFree.of_bodySF (plainFor_of_name pn_31) hisR ?_
  intro p e s m args below meth c s₁ Bd hml0 hP hK
  obtain ⟨rfl, hZ, hh⟩ := hP
  have hx := Bd.exec
  have hby := Bd.bytes
  have hml : c.maxLocals = 10 := hml0
  have hown : s.vm.findClass "com/example/tight_bound/tightbound/HeapObjectToStringPinLaw" = some m.cls := findClass_of_methodNamed Bd.named
  have X0 : Stand p l e (⟨4, 1, 10, 53⟩ : Room) s m #[(.ref a1), (.int p2), (.int p3), (.int p4), (.int p5), (.int p6), (.int p7), (.int p8), (.long q9)] below meth c s₁ [] 0 0 := Stand.of_body Bd
  have e0 : s₁.heap = h0 := by rw [← hh, Bd.state]; rfl
  have N0 := Fr.nil n0
  have pre0 : ∀ t, Steps p.tables e below (s₁.setTop (mkF m 0 #[vr a1, vi p2, vi p3, vi p4, vi p5, vi p6, vi p7, vi p8, .val (.long q9), .second] [])) t → Steps p.tables e below (s₁.setTop (entryFrame m #[(.ref a1), (.int p2), (.int p3), (.int p4), (.int p5), (.int p6), (.int p7), (.int p8), (.long q9)] 10)) t := fun t k => castTop (ef_37_RIIIIIIIJ m a1 p2 p3 p4 p5 p6 p7 p8 q9) k
  obtain ⟨_, T21, L21, X21, hQ21, st21⟩ := cV X0 hx hZ hown (W hw 187 rfl) (W hw 80 rfl) (notFace_of_selects (args := #[]) (mvT hZ (W hw 82 rfl))) (W hw 82 rfl) (W hw 81 rfl) (W hw 83 rfl) (W hw 2 rfl) (by decide) (rm14 l Z a0 hw [] a1 a11 k13 p14 k15 p17 h0 n0 O0 F_12 V_16 E_10 S_18 hc19 F_20) e0 E_10 #[vr a1, vi p2, vi p3, vi p4, vi p5, vi p6, vi p7, vi p8, .val (.long q9), .second] [(.int p2)] (by rw [hml]; rfl) (hb hby d37_2) pd_11 rfl (W := 1) (Nat.le_of_eq rfl) (by decide) (by decide) (by decide) (by decide)
  obtain ⟨rfl, Nq21, e21⟩ := hQ21
  have N21 := Fr.app N0 Nq21
  have pre22 : ∀ t, Steps p.tables e below (T21.setTop (mkF m 5 #[vr a1, vi p2, vi p3, vi p4, vi p5, vi p6, vi p7, vi p8, .val (.long q9), .second] [(.int p14), (.int p2)])) t → Steps p.tables e below (s₁.setTop (entryFrame m #[(.ref a1), (.int p2), (.int p3), (.int p4), (.int p5), (.int p6), (.int p7), (.int p8), (.long q9)] 10)) t := fun t kt => pre0 t (by
    show Steps p.tables e below (s₁.setTop (mkF m 0 #[vr a1, vi p2, vi p3, vi p4, vi p5, vi p6, vi p7, vi p8, .val (.long q9), .second] [])) _
    refine XS.iloadN X0.here hx rfl (hb hby d37_0) rfl ?_
    refine XS.aloadN X0.here hx rfl (hb hby d37_1) rfl rfl ?_
    refine st21 _ ?_
    exact kt)
  by_cases hi : p2 < p14
  · obtain ⟨_, T26, L26, X26, hQ26, st26⟩ := cV X21 hx hZ hown (W hw 191 rfl) (W hw 192 rfl) (notFace_of_selects (args := #[]) (mvT hZ (W hw 194 rfl))) (W hw 194 rfl) (W hw 193 rfl) (W hw 195 rfl) (W hw 2 rfl) (by decide) (rm38 l Z a0 hw [] a1 p2 p17 a11 k13 p14 k15 h0 n0 O0 E_10 S_18 hc19 F_20 F_12 V_16 T_23 hc24 hi hc25) e21 E_10 #[vr a1, vi p2, vi p3, vi p4, vi p5, vi p6, vi p7, vi p8, .val (.long q9), .second] [] (by rw [hml]; rfl) (hb hby d37_12) pd_37 rfl (W := 0) (Nat.le_of_eq rfl) (by decide) (by decide) (by decide) (by decide)
    obtain ⟨rfl, Nq26, e26⟩ := hQ26
    have N26 := Fr.app N21 Nq26
    obtain ⟨_, T27, L27, X27, hQ27, st27⟩ := cS X26 hx hZ hown (W hw 213 rfl) (W hw 214 rfl) (W hw 184 rfl) (W hw 215 rfl) (by decide) (rm43 l Z a0 hw [] p2 p3 p4 p5 p6 p7 p8 q9 h0 n0 O0 (hu hi).1 (hu hi).2.1) e26 #[vr a1, vi p2, vi p3, vi p4, vi p5, vi p6, vi p7, vi p8, .val (.long q9), .second] [(.int (nar .char (nar .char (((k15 (p2).toNatClampNeg) &&& (255 : Int32)).toUInt32.toUInt16.toUInt32.toInt32))))] (by rw [hml]; rfl) (hb hby d37_28) pd_39 rfl (W := 1) (Nat.le_of_eq rfl) (by decide) (by decide) (by decide) (by decide)
    obtain ⟨rfl, Nq27, K27⟩ := hQ27
    have N27 := Fr.app N26 Nq27
    have KK27 := Keep.trans (h := h0) (Keep.refl h0 []) K27 all0
    obtain ⟨fs, hr, hrun, hended, hW, hsame⟩ := X27.leave (v := some (.int 1)) (fun h => by rw [Bd.returns] at h; cases h)
    refine ⟨_, _, pre22 _ ?_, hrun, hended, _, _, rfl, ?_, ⟨_, rfl⟩, hW, hsame.mono (by decide) (by decide)⟩
    · show Steps p.tables e below (T21.setTop (mkF m 5 #[vr a1, vi p2, vi p3, vi p4, vi p5, vi p6, vi p7, vi p8, .val (.long q9), .second] [(.int p14), (.int p2)])) _
      refine XS.icmpYes X21.here hx rfl (pc0 := 5) (pc' := 10) rfl (hb hby d37_5) rfl (tlt (hi : p2 < p14)).1 (by decide) (by decide) ?_
      refine XS.aloadN X21.here hx rfl (hb hby d37_10) rfl rfl ?_
      refine XS.iloadN X21.here hx rfl (hb hby d37_11) rfl ?_
      refine st26 _ ?_
      refine XS.iloadN X26.here hx rfl (hb hby d37_15) rfl ?_
      refine XS.iloadN X26.here hx rfl (hb hby d37_16) rfl ?_
      refine XS.iloadN X26.here hx rfl (hb hby d37_17) rfl ?_
      refine XS.iload X26.here hx rfl (hb hby d37_18) rfl ?_
      refine XS.iload X26.here hx rfl (hb hby d37_20) rfl ?_
      refine XS.iload X26.here hx rfl (hb hby d37_22) rfl ?_
      show Steps p.tables e below (T26.setTop (mkF m 24 #[vr a1, vi p2, vi p3, vi p4, vi p5, vi p6, vi p7, vi p8, .val (.long q9), .second] [(.int p7), (.int p6), (.int p5), (.int p4), (.int p3), (.int p2), (.int (nar .char (nar .char (((k15 (p2).toNatClampNeg) &&& (255 : Int32)).toUInt32.toUInt16.toUInt32.toInt32))))])) _
      refine XS.iload X26.here hx rfl (hb hby d37_24) rfl ?_
      refine XS.lload X26.here hx rfl (hb hby d37_26) rfl ?_
      refine st27 _ ?_
      refine XS.icmpNo X27.here hx rfl (hb hby d37_31) rfl (teq ((hu hi).2.2 : (nar .char (nar .char (((k15 (p2).toNatClampNeg) &&& (255 : Int32)).toUInt32.toUInt16.toUInt32.toInt32))) = (own_exp p2 p3 p4 p5 p6 p7 p8 q9))).2 ?_
      refine XS.iconst X27.here hx rfl (hb hby d37_34) ?_
      refine XS.goto X27.here hx rfl (pc0 := 35) (pc' := 39) rfl (hb hby d37_35) (by decide) (by decide) ?_
      exact retN X27 hx (t := .boolean) Bd.returns (by simp) (hb hby d37_39) hr
    · show Qrm37 Z a1 p2 p3 p4 p5 p6 p7 p8 q9 a11 k13 p14 k15 p17 h0 n0 _ T27.heap _
      exact ⟨rfl, N27, KK27⟩
  · obtain ⟨fs, hr, hrun, hended, hW, hsame⟩ := X21.leave (v := some (.int 1)) (fun h => by rw [Bd.returns] at h; cases h)
    refine ⟨_, _, pre22 _ ?_, hrun, hended, _, _, rfl, ?_, ⟨_, rfl⟩, hW, hsame.mono (by decide) (by decide)⟩
    · show Steps p.tables e below (T21.setTop (mkF m 5 #[vr a1, vi p2, vi p3, vi p4, vi p5, vi p6, vi p7, vi p8, .val (.long q9), .second] [(.int p14), (.int p2)])) _
      refine XS.icmpNo X21.here hx rfl (hb hby d37_5) rfl (flt (hi : ¬ (p2 < p14))).1 ?_
      refine XS.iconst X21.here hx rfl (hb hby d37_8) ?_
      exact retN X21 hx (t := .boolean) Bd.returns (by simp) (hb hby d37_9) hr
    · show Qrm37 Z a1 p2 p3 p4 p5 p6 p7 p8 q9 a11 k13 p14 k15 p17 h0 n0 _ T21.heap _
      rw [e21]
      exact ⟨rfl, N21, (Keep.refl h0 [])⟩
theorem pd_40 : parseMethodDescriptor "(Ljava/lang/String;ICCCIIIJ)Z" = some ⟨[(.object "java/lang/String"), .int, .char, .char, .char, .int, .int, .int, .long], some .boolean⟩ := by decide +kernel
set_option maxRecDepth 65536 in
set_option maxHeartbeats 40000000 in
theorem sg0_168_522 {p : Program} {l : Launch} {e : Env} {R : Room} {s : State} {m : MethodId} {args : Array Value} {below : List Frame} {meth : Method} {c : Code} {T0 : State} {locs : List Loc} {cells slots : Nat} {Z : State} {a0 : Array Value} (hw : ∀ d ∈ tables_1, d.before a0 Z = true) (p1 : Int32) (p2 : Int32) (p3 : Int32) (p4 : Int32) (p5 : Int32) (p6 : Int32) (p7 : Int32) (a8 : Addr) (a9 : Addr) (q10 : Int64) (p11 : Int32) (a14 : Addr) (k16 : ClassId) (p17 : Int32) (k18 : (Nat → Int32)) (p20 : Int32) (h0 : Heap) (n0 : Nat) (O0 : Old Z n0 h0) (E_13 : Exa Z h0 a9 "java/lang/String") (F_15 : Fld Z h0 a9 "java/lang/String" "value" "[B" (.ref a14)) (V_19 : Arv Z h0 a14 k16 .byte p17 (own_bs k18) (.int 0)) (S_21 : Sta Z Z.heap "java/lang/String" "COMPACT_STRINGS" "Z" (.int p20)) (hc22 : ¬ (p20 = (0 : Int32))) (F_23 : Fld Z h0 a9 "java/lang/String" "coder" "B" (.int 0)) (hc25 : p17 = ((p4 + p11) + (own_digs q10))) (T_26 : own_SF Z) (hU : ∀ i : Int32, ¬ i < 0 → i < 16 → own_OK p17 k18 p5 p6 p7 p4 p11 (own_digs q10) q10 i)
    (X0 : Stand p l e R s m args below meth c T0 locs cells slots) (hx : p.tables.exec = Jvm.exec) (hZ : Z.Warmed39 s.vm) (hby : c.code = code) (hml : c.maxLocals = 14) (hown : s.vm.findClass "com/example/tight_bound/tightbound/HeapObjectToStringPinLaw" = some m.cls) (e0 : T0.heap = h0) (N0 : Fr n0 locs) (hrc : cells + 14 ≤ R.cells) (hrs : slots + 140 ≤ R.slots) (hrf : 5 ≤ R.frames) (hrl : 74 ≤ R.locals) :
    ∃ (T' : State) (L' : List Loc), Stand p l e R s m args below meth c T' L' (cells + 14) (slots + 140) ∧ Fr n0 L' ∧ (Keep h0 T'.heap [] ∧ (∀ t, Steps p.tables e below (T'.setTop (mkF m 522 #[vi p1, vi p2, vi p3, vi p4, vi p5, vi p6, vi p7, vr a8, vr a9, .val (.long q10), .second, vi p11, vi (own_digs q10), vi ((p4 + p11) + (own_digs q10))] [(.int 1)])) t → Steps p.tables e below (T0.setTop (mkF m 168 #[vi p1, vi p2, vi p3, vi p4, vi p5, vi p6, vi p7, vr a8, vr a9, .val (.long q10), .second, vi p11, .unset, .unset] [])) t)) := by
  obtain ⟨_, T12, L12, X12, hQ12, st12⟩ := cS X0 hx hZ hown (W hw 182 rfl) (W hw 183 rfl) (W hw 184 rfl) (W hw 185 rfl) (by decide) (rm36 l Z a0 hw [] q10 h0 n0 O0 ) e0 #[vi p1, vi p2, vi p3, vi p4, vi p5, vi p6, vi p7, vr a8, vr a9, .val (.long q10), .second, vi p11, .unset, .unset] [] (by rw [hml]; rfl) (hb hby at_170) pd_32 rfl (W := 0) (Nat.le_of_eq rfl) (Nat.le_trans (by decide) hrf) (Nat.le_trans (by decide) hrl) (Nat.le_trans (by omega) hrc : cells + 0 ≤ R.cells) (Nat.le_trans (by omega) hrs : slots + 0 ≤ R.slots)
  obtain ⟨rfl, Nq12, e12⟩ := hQ12
  have N12 := Fr.app N0 Nq12
  obtain ⟨_, T24, L24, X24, hQ24, st24⟩ := cV X12 hx hZ hown (W hw 187 rfl) (W hw 80 rfl) (notFace_of_selects (args := #[]) (mvT hZ (W hw 82 rfl))) (W hw 82 rfl) (W hw 81 rfl) (W hw 83 rfl) (W hw 2 rfl) (by decide) (rm14 l Z a0 hw [] a9 a14 k16 p17 k18 p20 h0 n0 O0 F_15 V_19 E_13 S_21 hc22 F_23) e12 E_13 #[vi p1, vi p2, vi p3, vi p4, vi p5, vi p6, vi p7, vr a8, vr a9, .val (.long q10), .second, vi p11, vi (own_digs q10), vi ((p4 + p11) + (own_digs q10))] [] (by rw [hml]; rfl) (hb hby at_191) pd_11 rfl (W := 0) (Nat.le_of_eq rfl) (Nat.le_trans (by decide) hrf) (Nat.le_trans (by decide) hrl) (Nat.le_trans (by omega) hrc : cells + 0 + 0 ≤ R.cells) (Nat.le_trans (by omega) hrs : slots + 0 + 0 ≤ R.slots)
  obtain ⟨rfl, Nq24, e24⟩ := hQ24
  have N24 := Fr.app N12 Nq24
  obtain ⟨_, T27, L27, X27, hQ27, st27⟩ := cS X24 hx hZ hown (W hw 188 rfl) (W hw 189 rfl) (W hw 184 rfl) (W hw 190 rfl) (by decide) (rm37 l Z a0 hw [] a9 (0 : Int32) p5 p6 p7 p4 p11 (own_digs q10) q10 a14 k16 p17 k18 p20 h0 n0 O0 E_13 F_15 V_19 S_21 hc22 F_23 (hU (0 : Int32) (by decide) (by decide)) T_26 (by decide) (by decide)) e24 #[vi p1, vi p2, vi p3, vi p4, vi p5, vi p6, vi p7, vr a8, vr a9, .val (.long q10), .second, vi p11, vi (own_digs q10), vi ((p4 + p11) + (own_digs q10))] [] (by rw [hml]; rfl) (hb hby at_217) pd_40 rfl (W := 0) (Nat.le_of_eq rfl) (Nat.le_trans (by decide) hrf) (Nat.le_trans (by decide) hrl) (Nat.le_trans (by omega) hrc : cells + 0 + 0 + 1 ≤ R.cells) (Nat.le_trans (by omega) hrs : slots + 0 + 0 + 10 ≤ R.slots)
  obtain ⟨rfl, Nq27, K27⟩ := hQ27
  have N27 := Fr.app N24 Nq27
  have KK27 := Keep.trans (h := h0) (Keep.refl h0 []) K27 all0
  have O27 := O0.keep K27 all0
  have f28 := (E_13.keep K27)
  have f29 := (F_15.keep K27 nin0)
  have f30 := (V_19.keep K27 nin0)
  have f31 := (F_23.keep K27 nin0)
  obtain ⟨_, T32, L32, X32, hQ32, st32⟩ := cS X27 hx hZ hown (W hw 188 rfl) (W hw 189 rfl) (W hw 184 rfl) (W hw 190 rfl) (by decide) (rm37 l Z a0 hw [] a9 (1 : Int32) p5 p6 p7 p4 p11 (own_digs q10) q10 a14 k16 p17 k18 p20 T27.heap n0 O27 f28 f29 f30 S_21 hc22 f31 (hU (1 : Int32) (by decide) (by decide)) T_26 (by decide) (by decide)) rfl #[vi p1, vi p2, vi p3, vi p4, vi p5, vi p6, vi p7, vr a8, vr a9, .val (.long q10), .second, vi p11, vi (own_digs q10), vi ((p4 + p11) + (own_digs q10))] [] (by rw [hml]; rfl) (hb hby at_239) pd_40 rfl (W := 0) (Nat.le_of_eq rfl) (Nat.le_trans (by decide) hrf) (Nat.le_trans (by decide) hrl) (Nat.le_trans (by omega) hrc : cells + 0 + 0 + 1 + 1 ≤ R.cells) (Nat.le_trans (by omega) hrs : slots + 0 + 0 + 10 + 10 ≤ R.slots)
  obtain ⟨rfl, Nq32, K32⟩ := hQ32
  have N32 := Fr.app N27 Nq32
  have KK32 := Keep.trans (h := T27.heap) KK27 K32 all0
  have O32 := O27.keep K32 all0
  have f33 := (f28.keep K32)
  have f34 := (f29.keep K32 nin0)
  have f35 := (f30.keep K32 nin0)
  have f36 := (f31.keep K32 nin0)
  obtain ⟨_, T37, L37, X37, hQ37, st37⟩ := cS X32 hx hZ hown (W hw 188 rfl) (W hw 189 rfl) (W hw 184 rfl) (W hw 190 rfl) (by decide) (rm37 l Z a0 hw [] a9 (2 : Int32) p5 p6 p7 p4 p11 (own_digs q10) q10 a14 k16 p17 k18 p20 T32.heap n0 O32 f33 f34 f35 S_21 hc22 f36 (hU (2 : Int32) (by decide) (by decide)) T_26 (by decide) (by decide)) rfl #[vi p1, vi p2, vi p3, vi p4, vi p5, vi p6, vi p7, vr a8, vr a9, .val (.long q10), .second, vi p11, vi (own_digs q10), vi ((p4 + p11) + (own_digs q10))] [] (by rw [hml]; rfl) (hb hby at_261) pd_40 rfl (W := 0) (Nat.le_of_eq rfl) (Nat.le_trans (by decide) hrf) (Nat.le_trans (by decide) hrl) (Nat.le_trans (by omega) hrc : cells + 0 + 0 + 1 + 1 + 1 ≤ R.cells) (Nat.le_trans (by omega) hrs : slots + 0 + 0 + 10 + 10 + 10 ≤ R.slots)
  obtain ⟨rfl, Nq37, K37⟩ := hQ37
  have N37 := Fr.app N32 Nq37
  have KK37 := Keep.trans (h := T32.heap) KK32 K37 all0
  have O37 := O32.keep K37 all0
  have f38 := (f33.keep K37)
  have f39 := (f34.keep K37 nin0)
  have f40 := (f35.keep K37 nin0)
  have f41 := (f36.keep K37 nin0)
  obtain ⟨_, T42, L42, X42, hQ42, st42⟩ := cS X37 hx hZ hown (W hw 188 rfl) (W hw 189 rfl) (W hw 184 rfl) (W hw 190 rfl) (by decide) (rm37 l Z a0 hw [] a9 (3 : Int32) p5 p6 p7 p4 p11 (own_digs q10) q10 a14 k16 p17 k18 p20 T37.heap n0 O37 f38 f39 f40 S_21 hc22 f41 (hU (3 : Int32) (by decide) (by decide)) T_26 (by decide) (by decide)) rfl #[vi p1, vi p2, vi p3, vi p4, vi p5, vi p6, vi p7, vr a8, vr a9, .val (.long q10), .second, vi p11, vi (own_digs q10), vi ((p4 + p11) + (own_digs q10))] [] (by rw [hml]; rfl) (hb hby at_283) pd_40 rfl (W := 0) (Nat.le_of_eq rfl) (Nat.le_trans (by decide) hrf) (Nat.le_trans (by decide) hrl) (Nat.le_trans (by omega) hrc : cells + 0 + 0 + 1 + 1 + 1 + 1 ≤ R.cells) (Nat.le_trans (by omega) hrs : slots + 0 + 0 + 10 + 10 + 10 + 10 ≤ R.slots)
  obtain ⟨rfl, Nq42, K42⟩ := hQ42
  have N42 := Fr.app N37 Nq42
  have KK42 := Keep.trans (h := T37.heap) KK37 K42 all0
  have O42 := O37.keep K42 all0
  have f43 := (f38.keep K42)
  have f44 := (f39.keep K42 nin0)
  have f45 := (f40.keep K42 nin0)
  have f46 := (f41.keep K42 nin0)
  obtain ⟨_, T47, L47, X47, hQ47, st47⟩ := cS X42 hx hZ hown (W hw 188 rfl) (W hw 189 rfl) (W hw 184 rfl) (W hw 190 rfl) (by decide) (rm37 l Z a0 hw [] a9 (4 : Int32) p5 p6 p7 p4 p11 (own_digs q10) q10 a14 k16 p17 k18 p20 T42.heap n0 O42 f43 f44 f45 S_21 hc22 f46 (hU (4 : Int32) (by decide) (by decide)) T_26 (by decide) (by decide)) rfl #[vi p1, vi p2, vi p3, vi p4, vi p5, vi p6, vi p7, vr a8, vr a9, .val (.long q10), .second, vi p11, vi (own_digs q10), vi ((p4 + p11) + (own_digs q10))] [] (by rw [hml]; rfl) (hb hby at_305) pd_40 rfl (W := 0) (Nat.le_of_eq rfl) (Nat.le_trans (by decide) hrf) (Nat.le_trans (by decide) hrl) (Nat.le_trans (by omega) hrc : cells + 0 + 0 + 1 + 1 + 1 + 1 + 1 ≤ R.cells) (Nat.le_trans (by omega) hrs : slots + 0 + 0 + 10 + 10 + 10 + 10 + 10 ≤ R.slots)
  obtain ⟨rfl, Nq47, K47⟩ := hQ47
  have N47 := Fr.app N42 Nq47
  have KK47 := Keep.trans (h := T42.heap) KK42 K47 all0
  have O47 := O42.keep K47 all0
  have f48 := (f43.keep K47)
  have f49 := (f44.keep K47 nin0)
  have f50 := (f45.keep K47 nin0)
  have f51 := (f46.keep K47 nin0)
  obtain ⟨_, T52, L52, X52, hQ52, st52⟩ := cS X47 hx hZ hown (W hw 188 rfl) (W hw 189 rfl) (W hw 184 rfl) (W hw 190 rfl) (by decide) (rm37 l Z a0 hw [] a9 (5 : Int32) p5 p6 p7 p4 p11 (own_digs q10) q10 a14 k16 p17 k18 p20 T47.heap n0 O47 f48 f49 f50 S_21 hc22 f51 (hU (5 : Int32) (by decide) (by decide)) T_26 (by decide) (by decide)) rfl #[vi p1, vi p2, vi p3, vi p4, vi p5, vi p6, vi p7, vr a8, vr a9, .val (.long q10), .second, vi p11, vi (own_digs q10), vi ((p4 + p11) + (own_digs q10))] [] (by rw [hml]; rfl) (hb hby at_327) pd_40 rfl (W := 0) (Nat.le_of_eq rfl) (Nat.le_trans (by decide) hrf) (Nat.le_trans (by decide) hrl) (Nat.le_trans (by omega) hrc : cells + 0 + 0 + 1 + 1 + 1 + 1 + 1 + 1 ≤ R.cells) (Nat.le_trans (by omega) hrs : slots + 0 + 0 + 10 + 10 + 10 + 10 + 10 + 10 ≤ R.slots)
  obtain ⟨rfl, Nq52, K52⟩ := hQ52
  have N52 := Fr.app N47 Nq52
  have KK52 := Keep.trans (h := T47.heap) KK47 K52 all0
  have O52 := O47.keep K52 all0
  have f53 := (f48.keep K52)
  have f54 := (f49.keep K52 nin0)
  have f55 := (f50.keep K52 nin0)
  have f56 := (f51.keep K52 nin0)
  obtain ⟨_, T57, L57, X57, hQ57, st57⟩ := cS X52 hx hZ hown (W hw 188 rfl) (W hw 189 rfl) (W hw 184 rfl) (W hw 190 rfl) (by decide) (rm37 l Z a0 hw [] a9 (6 : Int32) p5 p6 p7 p4 p11 (own_digs q10) q10 a14 k16 p17 k18 p20 T52.heap n0 O52 f53 f54 f55 S_21 hc22 f56 (hU (6 : Int32) (by decide) (by decide)) T_26 (by decide) (by decide)) rfl #[vi p1, vi p2, vi p3, vi p4, vi p5, vi p6, vi p7, vr a8, vr a9, .val (.long q10), .second, vi p11, vi (own_digs q10), vi ((p4 + p11) + (own_digs q10))] [] (by rw [hml]; rfl) (hb hby at_350) pd_40 rfl (W := 0) (Nat.le_of_eq rfl) (Nat.le_trans (by decide) hrf) (Nat.le_trans (by decide) hrl) (Nat.le_trans (by omega) hrc : cells + 0 + 0 + 1 + 1 + 1 + 1 + 1 + 1 + 1 ≤ R.cells) (Nat.le_trans (by omega) hrs : slots + 0 + 0 + 10 + 10 + 10 + 10 + 10 + 10 + 10 ≤ R.slots)
  obtain ⟨rfl, Nq57, K57⟩ := hQ57
  have N57 := Fr.app N52 Nq57
  have KK57 := Keep.trans (h := T52.heap) KK52 K57 all0
  have O57 := O52.keep K57 all0
  have f58 := (f53.keep K57)
  have f59 := (f54.keep K57 nin0)
  have f60 := (f55.keep K57 nin0)
  have f61 := (f56.keep K57 nin0)
  obtain ⟨_, T62, L62, X62, hQ62, st62⟩ := cS X57 hx hZ hown (W hw 188 rfl) (W hw 189 rfl) (W hw 184 rfl) (W hw 190 rfl) (by decide) (rm37 l Z a0 hw [] a9 (7 : Int32) p5 p6 p7 p4 p11 (own_digs q10) q10 a14 k16 p17 k18 p20 T57.heap n0 O57 f58 f59 f60 S_21 hc22 f61 (hU (7 : Int32) (by decide) (by decide)) T_26 (by decide) (by decide)) rfl #[vi p1, vi p2, vi p3, vi p4, vi p5, vi p6, vi p7, vr a8, vr a9, .val (.long q10), .second, vi p11, vi (own_digs q10), vi ((p4 + p11) + (own_digs q10))] [] (by rw [hml]; rfl) (hb hby at_373) pd_40 rfl (W := 0) (Nat.le_of_eq rfl) (Nat.le_trans (by decide) hrf) (Nat.le_trans (by decide) hrl) (Nat.le_trans (by omega) hrc : cells + 0 + 0 + 1 + 1 + 1 + 1 + 1 + 1 + 1 + 1 ≤ R.cells) (Nat.le_trans (by omega) hrs : slots + 0 + 0 + 10 + 10 + 10 + 10 + 10 + 10 + 10 + 10 ≤ R.slots)
  obtain ⟨rfl, Nq62, K62⟩ := hQ62
  have N62 := Fr.app N57 Nq62
  have KK62 := Keep.trans (h := T57.heap) KK57 K62 all0
  have O62 := O57.keep K62 all0
  have f63 := (f58.keep K62)
  have f64 := (f59.keep K62 nin0)
  have f65 := (f60.keep K62 nin0)
  have f66 := (f61.keep K62 nin0)
  obtain ⟨_, T67, L67, X67, hQ67, st67⟩ := cS X62 hx hZ hown (W hw 188 rfl) (W hw 189 rfl) (W hw 184 rfl) (W hw 190 rfl) (by decide) (rm37 l Z a0 hw [] a9 (8 : Int32) p5 p6 p7 p4 p11 (own_digs q10) q10 a14 k16 p17 k18 p20 T62.heap n0 O62 f63 f64 f65 S_21 hc22 f66 (hU (8 : Int32) (by decide) (by decide)) T_26 (by decide) (by decide)) rfl #[vi p1, vi p2, vi p3, vi p4, vi p5, vi p6, vi p7, vr a8, vr a9, .val (.long q10), .second, vi p11, vi (own_digs q10), vi ((p4 + p11) + (own_digs q10))] [] (by rw [hml]; rfl) (hb hby at_396) pd_40 rfl (W := 0) (Nat.le_of_eq rfl) (Nat.le_trans (by decide) hrf) (Nat.le_trans (by decide) hrl) (Nat.le_trans (by omega) hrc : cells + 0 + 0 + 1 + 1 + 1 + 1 + 1 + 1 + 1 + 1 + 1 ≤ R.cells) (Nat.le_trans (by omega) hrs : slots + 0 + 0 + 10 + 10 + 10 + 10 + 10 + 10 + 10 + 10 + 10 ≤ R.slots)
  obtain ⟨rfl, Nq67, K67⟩ := hQ67
  have N67 := Fr.app N62 Nq67
  have KK67 := Keep.trans (h := T62.heap) KK62 K67 all0
  have O67 := O62.keep K67 all0
  have f68 := (f63.keep K67)
  have f69 := (f64.keep K67 nin0)
  have f70 := (f65.keep K67 nin0)
  have f71 := (f66.keep K67 nin0)
  obtain ⟨_, T72, L72, X72, hQ72, st72⟩ := cS X67 hx hZ hown (W hw 188 rfl) (W hw 189 rfl) (W hw 184 rfl) (W hw 190 rfl) (by decide) (rm37 l Z a0 hw [] a9 (9 : Int32) p5 p6 p7 p4 p11 (own_digs q10) q10 a14 k16 p17 k18 p20 T67.heap n0 O67 f68 f69 f70 S_21 hc22 f71 (hU (9 : Int32) (by decide) (by decide)) T_26 (by decide) (by decide)) rfl #[vi p1, vi p2, vi p3, vi p4, vi p5, vi p6, vi p7, vr a8, vr a9, .val (.long q10), .second, vi p11, vi (own_digs q10), vi ((p4 + p11) + (own_digs q10))] [] (by rw [hml]; rfl) (hb hby at_419) pd_40 rfl (W := 0) (Nat.le_of_eq rfl) (Nat.le_trans (by decide) hrf) (Nat.le_trans (by decide) hrl) (Nat.le_trans (by omega) hrc : cells + 0 + 0 + 1 + 1 + 1 + 1 + 1 + 1 + 1 + 1 + 1 + 1 ≤ R.cells) (Nat.le_trans (by omega) hrs : slots + 0 + 0 + 10 + 10 + 10 + 10 + 10 + 10 + 10 + 10 + 10 + 10 ≤ R.slots)
  obtain ⟨rfl, Nq72, K72⟩ := hQ72
  have N72 := Fr.app N67 Nq72
  have KK72 := Keep.trans (h := T67.heap) KK67 K72 all0
  have O72 := O67.keep K72 all0
  have f73 := (f68.keep K72)
  have f74 := (f69.keep K72 nin0)
  have f75 := (f70.keep K72 nin0)
  have f76 := (f71.keep K72 nin0)
  obtain ⟨_, T77, L77, X77, hQ77, st77⟩ := cS X72 hx hZ hown (W hw 188 rfl) (W hw 189 rfl) (W hw 184 rfl) (W hw 190 rfl) (by decide) (rm37 l Z a0 hw [] a9 (10 : Int32) p5 p6 p7 p4 p11 (own_digs q10) q10 a14 k16 p17 k18 p20 T72.heap n0 O72 f73 f74 f75 S_21 hc22 f76 (hU (10 : Int32) (by decide) (by decide)) T_26 (by decide) (by decide)) rfl #[vi p1, vi p2, vi p3, vi p4, vi p5, vi p6, vi p7, vr a8, vr a9, .val (.long q10), .second, vi p11, vi (own_digs q10), vi ((p4 + p11) + (own_digs q10))] [] (by rw [hml]; rfl) (hb hby at_442) pd_40 rfl (W := 0) (Nat.le_of_eq rfl) (Nat.le_trans (by decide) hrf) (Nat.le_trans (by decide) hrl) (Nat.le_trans (by omega) hrc : cells + 0 + 0 + 1 + 1 + 1 + 1 + 1 + 1 + 1 + 1 + 1 + 1 + 1 ≤ R.cells) (Nat.le_trans (by omega) hrs : slots + 0 + 0 + 10 + 10 + 10 + 10 + 10 + 10 + 10 + 10 + 10 + 10 + 10 ≤ R.slots)
  obtain ⟨rfl, Nq77, K77⟩ := hQ77
  have N77 := Fr.app N72 Nq77
  have KK77 := Keep.trans (h := T72.heap) KK72 K77 all0
  have O77 := O72.keep K77 all0
  have f78 := (f73.keep K77)
  have f79 := (f74.keep K77 nin0)
  have f80 := (f75.keep K77 nin0)
  have f81 := (f76.keep K77 nin0)
  obtain ⟨_, T82, L82, X82, hQ82, st82⟩ := cS X77 hx hZ hown (W hw 188 rfl) (W hw 189 rfl) (W hw 184 rfl) (W hw 190 rfl) (by decide) (rm37 l Z a0 hw [] a9 (11 : Int32) p5 p6 p7 p4 p11 (own_digs q10) q10 a14 k16 p17 k18 p20 T77.heap n0 O77 f78 f79 f80 S_21 hc22 f81 (hU (11 : Int32) (by decide) (by decide)) T_26 (by decide) (by decide)) rfl #[vi p1, vi p2, vi p3, vi p4, vi p5, vi p6, vi p7, vr a8, vr a9, .val (.long q10), .second, vi p11, vi (own_digs q10), vi ((p4 + p11) + (own_digs q10))] [] (by rw [hml]; rfl) (hb hby at_465) pd_40 rfl (W := 0) (Nat.le_of_eq rfl) (Nat.le_trans (by decide) hrf) (Nat.le_trans (by decide) hrl) (Nat.le_trans (by omega) hrc : cells + 0 + 0 + 1 + 1 + 1 + 1 + 1 + 1 + 1 + 1 + 1 + 1 + 1 + 1 ≤ R.cells) (Nat.le_trans (by omega) hrs : slots + 0 + 0 + 10 + 10 + 10 + 10 + 10 + 10 + 10 + 10 + 10 + 10 + 10 + 10 ≤ R.slots)
  obtain ⟨rfl, Nq82, K82⟩ := hQ82
  have N82 := Fr.app N77 Nq82
  have KK82 := Keep.trans (h := T77.heap) KK77 K82 all0
  have O82 := O77.keep K82 all0
  have f83 := (f78.keep K82)
  have f84 := (f79.keep K82 nin0)
  have f85 := (f80.keep K82 nin0)
  have f86 := (f81.keep K82 nin0)
  obtain ⟨_, T87, L87, X87, hQ87, st87⟩ := cS X82 hx hZ hown (W hw 188 rfl) (W hw 189 rfl) (W hw 184 rfl) (W hw 190 rfl) (by decide) (rm37 l Z a0 hw [] a9 (12 : Int32) p5 p6 p7 p4 p11 (own_digs q10) q10 a14 k16 p17 k18 p20 T82.heap n0 O82 f83 f84 f85 S_21 hc22 f86 (hU (12 : Int32) (by decide) (by decide)) T_26 (by decide) (by decide)) rfl #[vi p1, vi p2, vi p3, vi p4, vi p5, vi p6, vi p7, vr a8, vr a9, .val (.long q10), .second, vi p11, vi (own_digs q10), vi ((p4 + p11) + (own_digs q10))] [] (by rw [hml]; rfl) (hb hby at_488) pd_40 rfl (W := 0) (Nat.le_of_eq rfl) (Nat.le_trans (by decide) hrf) (Nat.le_trans (by decide) hrl) (Nat.le_trans (by omega) hrc : cells + 0 + 0 + 1 + 1 + 1 + 1 + 1 + 1 + 1 + 1 + 1 + 1 + 1 + 1 + 1 ≤ R.cells) (Nat.le_trans (by omega) hrs : slots + 0 + 0 + 10 + 10 + 10 + 10 + 10 + 10 + 10 + 10 + 10 + 10 + 10 + 10 + 10 ≤ R.slots)
  obtain ⟨rfl, Nq87, K87⟩ := hQ87
  have N87 := Fr.app N82 Nq87
  have KK87 := Keep.trans (h := T82.heap) KK82 K87 all0
  have O87 := O82.keep K87 all0
  have f88 := (f83.keep K87)
  have f89 := (f84.keep K87 nin0)
  have f90 := (f85.keep K87 nin0)
  have f91 := (f86.keep K87 nin0)
  obtain ⟨_, T92, L92, X92, hQ92, st92⟩ := cS X87 hx hZ hown (W hw 188 rfl) (W hw 189 rfl) (W hw 184 rfl) (W hw 190 rfl) (by decide) (rm37 l Z a0 hw [] a9 (13 : Int32) p5 p6 p7 p4 p11 (own_digs q10) q10 a14 k16 p17 k18 p20 T87.heap n0 O87 f88 f89 f90 S_21 hc22 f91 (hU (13 : Int32) (by decide) (by decide)) T_26 (by decide) (by decide)) rfl #[vi p1, vi p2, vi p3, vi p4, vi p5, vi p6, vi p7, vr a8, vr a9, .val (.long q10), .second, vi p11, vi (own_digs q10), vi ((p4 + p11) + (own_digs q10))] [] (by rw [hml]; rfl) (hb hby at_511) pd_40 rfl (W := 0) (Nat.le_of_eq rfl) (Nat.le_trans (by decide) hrf) (Nat.le_trans (by decide) hrl) (Nat.le_trans (by omega) hrc : cells + 0 + 0 + 1 + 1 + 1 + 1 + 1 + 1 + 1 + 1 + 1 + 1 + 1 + 1 + 1 + 1 ≤ R.cells) (Nat.le_trans (by omega) hrs : slots + 0 + 0 + 10 + 10 + 10 + 10 + 10 + 10 + 10 + 10 + 10 + 10 + 10 + 10 + 10 + 10 ≤ R.slots)
  obtain ⟨rfl, Nq92, K92⟩ := hQ92
  have N92 := Fr.app N87 Nq92
  have KK92 := Keep.trans (h := T87.heap) KK87 K92 all0
  refine ⟨T92, _, X92.more (show cells + 0 + 0 + 1 + 1 + 1 + 1 + 1 + 1 + 1 + 1 + 1 + 1 + 1 + 1 + 1 + 1 ≤ cells + 14 by omega) (show slots + 0 + 0 + 10 + 10 + 10 + 10 + 10 + 10 + 10 + 10 + 10 + 10 + 10 + 10 + 10 + 10 ≤ slots + 140 by omega), N92, ?_⟩
  refine ⟨KK92, fun t kt => ?_⟩
  show Steps p.tables e below (T0.setTop (mkF m 168 #[vi p1, vi p2, vi p3, vi p4, vi p5, vi p6, vi p7, vr a8, vr a9, .val (.long q10), .second, vi p11, .unset, .unset] [])) _
  refine XS.lload X0.here hx rfl (hb hby at_168) rfl ?_
  refine st12 _ ?_
  refine XS.istore X12.here hx rfl (hb hby at_173) rfl (l' := #[vi p1, vi p2, vi p3, vi p4, vi p5, vi p6, vi p7, vr a8, vr a9, .val (.long q10), .second, vi p11, vi (own_digs q10), .unset]) rfl ?_
  refine XS.iloadN X12.here hx rfl (hb hby at_175) rfl ?_
  refine XS.iload X12.here hx rfl (hb hby at_176) rfl ?_
  refine XS.iadd X12.here hx rfl (hb hby at_178) rfl ?_
  refine XS.iload X12.here hx rfl (hb hby at_179) rfl ?_
  refine XS.iadd X12.here hx rfl (hb hby at_181) rfl ?_
  refine XS.istore X12.here hx rfl (hb hby at_182) rfl (l' := #[vi p1, vi p2, vi p3, vi p4, vi p5, vi p6, vi p7, vr a8, vr a9, .val (.long q10), .second, vi p11, vi (own_digs q10), vi ((p4 + p11) + (own_digs q10))]) rfl ?_
  refine XS.aload X12.here hx rfl (hb hby at_184) rfl rfl ?_
  show Steps p.tables e below (T12.setTop (mkF m 186 #[vi p1, vi p2, vi p3, vi p4, vi p5, vi p6, vi p7, vr a8, vr a9, .val (.long q10), .second, vi p11, vi (own_digs q10), vi ((p4 + p11) + (own_digs q10))] [(.ref a9)])) _
  refine XS.ifnullNo X12.here hx rfl (hb hby at_186) rfl ?_
  refine XS.aload X12.here hx rfl (hb hby at_189) rfl rfl ?_
  refine st24 _ ?_
  refine XS.iload X24.here hx rfl (hb hby at_194) rfl ?_
  refine XS.icmpYes X24.here hx rfl (pc0 := 196) (pc' := 201) rfl (hb hby at_196) rfl (teq (hc25 : p17 = ((p4 + p11) + (own_digs q10)))).1 (by decide) (by decide) ?_
  refine XS.aload X24.here hx rfl (hb hby at_201) rfl rfl ?_
  refine XS.iconst X24.here hx rfl (hb hby at_203) ?_
  refine XS.iload X24.here hx rfl (hb hby at_204) rfl ?_
  refine XS.iload X24.here hx rfl (hb hby at_206) rfl ?_
  refine XS.iload X24.here hx rfl (hb hby at_208) rfl ?_
  show Steps p.tables e below (T24.setTop (mkF m 210 #[vi p1, vi p2, vi p3, vi p4, vi p5, vi p6, vi p7, vr a8, vr a9, .val (.long q10), .second, vi p11, vi (own_digs q10), vi ((p4 + p11) + (own_digs q10))] [(.int p7), (.int p6), (.int p5), (.int 0), (.ref a9)])) _
  refine XS.iloadN X24.here hx rfl (hb hby at_210) rfl ?_
  refine XS.iload X24.here hx rfl (hb hby at_211) rfl ?_
  refine XS.iload X24.here hx rfl (hb hby at_213) rfl ?_
  refine XS.lload X24.here hx rfl (hb hby at_215) rfl ?_
  refine st27 _ ?_
  refine XS.ifNo X27.here hx rfl (hb hby at_220) rfl ((if0 _ _).trans (feq ((by decide) : ¬ ((1 : Int32) = (0 : Int32)))).1) ?_
  refine XS.aload X27.here hx rfl (hb hby at_223) rfl rfl ?_
  refine XS.iconst X27.here hx rfl (hb hby at_225) ?_
  refine XS.iload X27.here hx rfl (hb hby at_226) rfl ?_
  refine XS.iload X27.here hx rfl (hb hby at_228) rfl ?_
  show Steps p.tables e below (T27.setTop (mkF m 230 #[vi p1, vi p2, vi p3, vi p4, vi p5, vi p6, vi p7, vr a8, vr a9, .val (.long q10), .second, vi p11, vi (own_digs q10), vi ((p4 + p11) + (own_digs q10))] [(.int p6), (.int p5), (.int 1), (.ref a9)])) _
  refine XS.iload X27.here hx rfl (hb hby at_230) rfl ?_
  refine XS.iloadN X27.here hx rfl (hb hby at_232) rfl ?_
  refine XS.iload X27.here hx rfl (hb hby at_233) rfl ?_
  refine XS.iload X27.here hx rfl (hb hby at_235) rfl ?_
  refine XS.lload X27.here hx rfl (hb hby at_237) rfl ?_
  refine st32 _ ?_
  refine XS.ifNo X32.here hx rfl (hb hby at_242) rfl ((if0 _ _).trans (feq ((by decide) : ¬ ((1 : Int32) = (0 : Int32)))).1) ?_
  refine XS.aload X32.here hx rfl (hb hby at_245) rfl rfl ?_
  refine XS.iconst X32.here hx rfl (hb hby at_247) ?_
  refine XS.iload X32.here hx rfl (hb hby at_248) rfl ?_
  show Steps p.tables e below (T32.setTop (mkF m 250 #[vi p1, vi p2, vi p3, vi p4, vi p5, vi p6, vi p7, vr a8, vr a9, .val (.long q10), .second, vi p11, vi (own_digs q10), vi ((p4 + p11) + (own_digs q10))] [(.int p5), (.int 2), (.ref a9)])) _
  refine XS.iload X32.here hx rfl (hb hby at_250) rfl ?_
  refine XS.iload X32.here hx rfl (hb hby at_252) rfl ?_
  refine XS.iloadN X32.here hx rfl (hb hby at_254) rfl ?_
  refine XS.iload X32.here hx rfl (hb hby at_255) rfl ?_
  refine XS.iload X32.here hx rfl (hb hby at_257) rfl ?_
  refine XS.lload X32.here hx rfl (hb hby at_259) rfl ?_
  refine st37 _ ?_
  refine XS.ifNo X37.here hx rfl (hb hby at_264) rfl ((if0 _ _).trans (feq ((by decide) : ¬ ((1 : Int32) = (0 : Int32)))).1) ?_
  refine XS.aload X37.here hx rfl (hb hby at_267) rfl rfl ?_
  refine XS.iconst X37.here hx rfl (hb hby at_269) ?_
  show Steps p.tables e below (T37.setTop (mkF m 270 #[vi p1, vi p2, vi p3, vi p4, vi p5, vi p6, vi p7, vr a8, vr a9, .val (.long q10), .second, vi p11, vi (own_digs q10), vi ((p4 + p11) + (own_digs q10))] [(.int 3), (.ref a9)])) _
  refine XS.iload X37.here hx rfl (hb hby at_270) rfl ?_
  refine XS.iload X37.here hx rfl (hb hby at_272) rfl ?_
  refine XS.iload X37.here hx rfl (hb hby at_274) rfl ?_
  refine XS.iloadN X37.here hx rfl (hb hby at_276) rfl ?_
  refine XS.iload X37.here hx rfl (hb hby at_277) rfl ?_
  refine XS.iload X37.here hx rfl (hb hby at_279) rfl ?_
  refine XS.lload X37.here hx rfl (hb hby at_281) rfl ?_
  refine st42 _ ?_
  refine XS.ifNo X42.here hx rfl (hb hby at_286) rfl ((if0 _ _).trans (feq ((by decide) : ¬ ((1 : Int32) = (0 : Int32)))).1) ?_
  refine XS.aload X42.here hx rfl (hb hby at_289) rfl rfl ?_
  show Steps p.tables e below (T42.setTop (mkF m 291 #[vi p1, vi p2, vi p3, vi p4, vi p5, vi p6, vi p7, vr a8, vr a9, .val (.long q10), .second, vi p11, vi (own_digs q10), vi ((p4 + p11) + (own_digs q10))] [(.ref a9)])) _
  refine XS.iconst X42.here hx rfl (hb hby at_291) ?_
  refine XS.iload X42.here hx rfl (hb hby at_292) rfl ?_
  refine XS.iload X42.here hx rfl (hb hby at_294) rfl ?_
  refine XS.iload X42.here hx rfl (hb hby at_296) rfl ?_
  refine XS.iloadN X42.here hx rfl (hb hby at_298) rfl ?_
  refine XS.iload X42.here hx rfl (hb hby at_299) rfl ?_
  refine XS.iload X42.here hx rfl (hb hby at_301) rfl ?_
  refine XS.lload X42.here hx rfl (hb hby at_303) rfl ?_
  refine st47 _ ?_
  refine XS.ifNo X47.here hx rfl (hb hby at_308) rfl ((if0 _ _).trans (feq ((by decide) : ¬ ((1 : Int32) = (0 : Int32)))).1) ?_
  show Steps p.tables e below (T47.setTop (mkF m 311 #[vi p1, vi p2, vi p3, vi p4, vi p5, vi p6, vi p7, vr a8, vr a9, .val (.long q10), .second, vi p11, vi (own_digs q10), vi ((p4 + p11) + (own_digs q10))] [])) _
  refine XS.aload X47.here hx rfl (hb hby at_311) rfl rfl ?_
  refine XS.iconst X47.here hx rfl (hb hby at_313) ?_
  refine XS.iload X47.here hx rfl (hb hby at_314) rfl ?_
  refine XS.iload X47.here hx rfl (hb hby at_316) rfl ?_
  refine XS.iload X47.here hx rfl (hb hby at_318) rfl ?_
  refine XS.iloadN X47.here hx rfl (hb hby at_320) rfl ?_
  refine XS.iload X47.here hx rfl (hb hby at_321) rfl ?_
  refine XS.iload X47.here hx rfl (hb hby at_323) rfl ?_
  refine XS.lload X47.here hx rfl (hb hby at_325) rfl ?_
  refine st52 _ ?_
  show Steps p.tables e below (T52.setTop (mkF m 330 #[vi p1, vi p2, vi p3, vi p4, vi p5, vi p6, vi p7, vr a8, vr a9, .val (.long q10), .second, vi p11, vi (own_digs q10), vi ((p4 + p11) + (own_digs q10))] [(.int 1)])) _
  refine XS.ifNo X52.here hx rfl (hb hby at_330) rfl ((if0 _ _).trans (feq ((by decide) : ¬ ((1 : Int32) = (0 : Int32)))).1) ?_
  refine XS.aload X52.here hx rfl (hb hby at_333) rfl rfl ?_
  refine XS.bipush X52.here hx rfl (hb hby at_335) ?_
  refine XS.iload X52.here hx rfl (hb hby at_337) rfl ?_
  refine XS.iload X52.here hx rfl (hb hby at_339) rfl ?_
  refine XS.iload X52.here hx rfl (hb hby at_341) rfl ?_
  refine XS.iloadN X52.here hx rfl (hb hby at_343) rfl ?_
  refine XS.iload X52.here hx rfl (hb hby at_344) rfl ?_
  refine XS.iload X52.here hx rfl (hb hby at_346) rfl ?_
  refine XS.lload X52.here hx rfl (hb hby at_348) rfl ?_
  show Steps p.tables e below (T52.setTop (mkF m 350 #[vi p1, vi p2, vi p3, vi p4, vi p5, vi p6, vi p7, vr a8, vr a9, .val (.long q10), .second, vi p11, vi (own_digs q10), vi ((p4 + p11) + (own_digs q10))] [(.long q10), (.int (own_digs q10)), (.int p11), (.int p4), (.int p7), (.int p6), (.int p5), (.int 6), (.ref a9)])) _
  refine st57 _ ?_
  refine XS.ifNo X57.here hx rfl (hb hby at_353) rfl ((if0 _ _).trans (feq ((by decide) : ¬ ((1 : Int32) = (0 : Int32)))).1) ?_
  refine XS.aload X57.here hx rfl (hb hby at_356) rfl rfl ?_
  refine XS.bipush X57.here hx rfl (hb hby at_358) ?_
  refine XS.iload X57.here hx rfl (hb hby at_360) rfl ?_
  refine XS.iload X57.here hx rfl (hb hby at_362) rfl ?_
  refine XS.iload X57.here hx rfl (hb hby at_364) rfl ?_
  refine XS.iloadN X57.here hx rfl (hb hby at_366) rfl ?_
  refine XS.iload X57.here hx rfl (hb hby at_367) rfl ?_
  refine XS.iload X57.here hx rfl (hb hby at_369) rfl ?_
  show Steps p.tables e below (T57.setTop (mkF m 371 #[vi p1, vi p2, vi p3, vi p4, vi p5, vi p6, vi p7, vr a8, vr a9, .val (.long q10), .second, vi p11, vi (own_digs q10), vi ((p4 + p11) + (own_digs q10))] [(.int (own_digs q10)), (.int p11), (.int p4), (.int p7), (.int p6), (.int p5), (.int 7), (.ref a9)])) _
  refine XS.lload X57.here hx rfl (hb hby at_371) rfl ?_
  refine st62 _ ?_
  refine XS.ifNo X62.here hx rfl (hb hby at_376) rfl ((if0 _ _).trans (feq ((by decide) : ¬ ((1 : Int32) = (0 : Int32)))).1) ?_
  refine XS.aload X62.here hx rfl (hb hby at_379) rfl rfl ?_
  refine XS.bipush X62.here hx rfl (hb hby at_381) ?_
  refine XS.iload X62.here hx rfl (hb hby at_383) rfl ?_
  refine XS.iload X62.here hx rfl (hb hby at_385) rfl ?_
  refine XS.iload X62.here hx rfl (hb hby at_387) rfl ?_
  refine XS.iloadN X62.here hx rfl (hb hby at_389) rfl ?_
  refine XS.iload X62.here hx rfl (hb hby at_390) rfl ?_
  show Steps p.tables e below (T62.setTop (mkF m 392 #[vi p1, vi p2, vi p3, vi p4, vi p5, vi p6, vi p7, vr a8, vr a9, .val (.long q10), .second, vi p11, vi (own_digs q10), vi ((p4 + p11) + (own_digs q10))] [(.int p11), (.int p4), (.int p7), (.int p6), (.int p5), (.int 8), (.ref a9)])) _
  refine XS.iload X62.here hx rfl (hb hby at_392) rfl ?_
  refine XS.lload X62.here hx rfl (hb hby at_394) rfl ?_
  refine st67 _ ?_
  refine XS.ifNo X67.here hx rfl (hb hby at_399) rfl ((if0 _ _).trans (feq ((by decide) : ¬ ((1 : Int32) = (0 : Int32)))).1) ?_
  refine XS.aload X67.here hx rfl (hb hby at_402) rfl rfl ?_
  refine XS.bipush X67.here hx rfl (hb hby at_404) ?_
  refine XS.iload X67.here hx rfl (hb hby at_406) rfl ?_
  refine XS.iload X67.here hx rfl (hb hby at_408) rfl ?_
  refine XS.iload X67.here hx rfl (hb hby at_410) rfl ?_
  refine XS.iloadN X67.here hx rfl (hb hby at_412) rfl ?_
  show Steps p.tables e below (T67.setTop (mkF m 413 #[vi p1, vi p2, vi p3, vi p4, vi p5, vi p6, vi p7, vr a8, vr a9, .val (.long q10), .second, vi p11, vi (own_digs q10), vi ((p4 + p11) + (own_digs q10))] [(.int p4), (.int p7), (.int p6), (.int p5), (.int 9), (.ref a9)])) _
  refine XS.iload X67.here hx rfl (hb hby at_413) rfl ?_
  refine XS.iload X67.here hx rfl (hb hby at_415) rfl ?_
  refine XS.lload X67.here hx rfl (hb hby at_417) rfl ?_
  refine st72 _ ?_
  refine XS.ifNo X72.here hx rfl (hb hby at_422) rfl ((if0 _ _).trans (feq ((by decide) : ¬ ((1 : Int32) = (0 : Int32)))).1) ?_
  refine XS.aload X72.here hx rfl (hb hby at_425) rfl rfl ?_
  refine XS.bipush X72.here hx rfl (hb hby at_427) ?_
  refine XS.iload X72.here hx rfl (hb hby at_429) rfl ?_
  refine XS.iload X72.here hx rfl (hb hby at_431) rfl ?_
  refine XS.iload X72.here hx rfl (hb hby at_433) rfl ?_
  show Steps p.tables e below (T72.setTop (mkF m 435 #[vi p1, vi p2, vi p3, vi p4, vi p5, vi p6, vi p7, vr a8, vr a9, .val (.long q10), .second, vi p11, vi (own_digs q10), vi ((p4 + p11) + (own_digs q10))] [(.int p7), (.int p6), (.int p5), (.int 10), (.ref a9)])) _
  refine XS.iloadN X72.here hx rfl (hb hby at_435) rfl ?_
  refine XS.iload X72.here hx rfl (hb hby at_436) rfl ?_
  refine XS.iload X72.here hx rfl (hb hby at_438) rfl ?_
  refine XS.lload X72.here hx rfl (hb hby at_440) rfl ?_
  refine st77 _ ?_
  refine XS.ifNo X77.here hx rfl (hb hby at_445) rfl ((if0 _ _).trans (feq ((by decide) : ¬ ((1 : Int32) = (0 : Int32)))).1) ?_
  refine XS.aload X77.here hx rfl (hb hby at_448) rfl rfl ?_
  refine XS.bipush X77.here hx rfl (hb hby at_450) ?_
  refine XS.iload X77.here hx rfl (hb hby at_452) rfl ?_
  refine XS.iload X77.here hx rfl (hb hby at_454) rfl ?_
  show Steps p.tables e below (T77.setTop (mkF m 456 #[vi p1, vi p2, vi p3, vi p4, vi p5, vi p6, vi p7, vr a8, vr a9, .val (.long q10), .second, vi p11, vi (own_digs q10), vi ((p4 + p11) + (own_digs q10))] [(.int p6), (.int p5), (.int 11), (.ref a9)])) _
  refine XS.iload X77.here hx rfl (hb hby at_456) rfl ?_
  refine XS.iloadN X77.here hx rfl (hb hby at_458) rfl ?_
  refine XS.iload X77.here hx rfl (hb hby at_459) rfl ?_
  refine XS.iload X77.here hx rfl (hb hby at_461) rfl ?_
  refine XS.lload X77.here hx rfl (hb hby at_463) rfl ?_
  refine st82 _ ?_
  refine XS.ifNo X82.here hx rfl (hb hby at_468) rfl ((if0 _ _).trans (feq ((by decide) : ¬ ((1 : Int32) = (0 : Int32)))).1) ?_
  refine XS.aload X82.here hx rfl (hb hby at_471) rfl rfl ?_
  refine XS.bipush X82.here hx rfl (hb hby at_473) ?_
  refine XS.iload X82.here hx rfl (hb hby at_475) rfl ?_
  show Steps p.tables e below (T82.setTop (mkF m 477 #[vi p1, vi p2, vi p3, vi p4, vi p5, vi p6, vi p7, vr a8, vr a9, .val (.long q10), .second, vi p11, vi (own_digs q10), vi ((p4 + p11) + (own_digs q10))] [(.int p5), (.int 12), (.ref a9)])) _
  refine XS.iload X82.here hx rfl (hb hby at_477) rfl ?_
  refine XS.iload X82.here hx rfl (hb hby at_479) rfl ?_
  refine XS.iloadN X82.here hx rfl (hb hby at_481) rfl ?_
  refine XS.iload X82.here hx rfl (hb hby at_482) rfl ?_
  refine XS.iload X82.here hx rfl (hb hby at_484) rfl ?_
  refine XS.lload X82.here hx rfl (hb hby at_486) rfl ?_
  refine st87 _ ?_
  refine XS.ifNo X87.here hx rfl (hb hby at_491) rfl ((if0 _ _).trans (feq ((by decide) : ¬ ((1 : Int32) = (0 : Int32)))).1) ?_
  refine XS.aload X87.here hx rfl (hb hby at_494) rfl rfl ?_
  refine XS.bipush X87.here hx rfl (hb hby at_496) ?_
  show Steps p.tables e below (T87.setTop (mkF m 498 #[vi p1, vi p2, vi p3, vi p4, vi p5, vi p6, vi p7, vr a8, vr a9, .val (.long q10), .second, vi p11, vi (own_digs q10), vi ((p4 + p11) + (own_digs q10))] [(.int 13), (.ref a9)])) _
  refine XS.iload X87.here hx rfl (hb hby at_498) rfl ?_
  refine XS.iload X87.here hx rfl (hb hby at_500) rfl ?_
  refine XS.iload X87.here hx rfl (hb hby at_502) rfl ?_
  refine XS.iloadN X87.here hx rfl (hb hby at_504) rfl ?_
  refine XS.iload X87.here hx rfl (hb hby at_505) rfl ?_
  refine XS.iload X87.here hx rfl (hb hby at_507) rfl ?_
  refine XS.lload X87.here hx rfl (hb hby at_509) rfl ?_
  refine st92 _ ?_
  refine XS.ifNo X92.here hx rfl (hb hby at_514) rfl ((if0 _ _).trans (feq ((by decide) : ¬ ((1 : Int32) = (0 : Int32)))).1) ?_
  refine XS.iconst X92.here hx rfl (hb hby at_517) ?_
  show Steps p.tables e below (T92.setTop (mkF m 518 #[vi p1, vi p2, vi p3, vi p4, vi p5, vi p6, vi p7, vr a8, vr a9, .val (.long q10), .second, vi p11, vi (own_digs q10), vi ((p4 + p11) + (own_digs q10))] [(.int 1)])) _
  refine XS.goto X92.here hx rfl (pc0 := 518) (pc' := 522) rfl (hb hby at_518) (by decide) (by decide) ?_
  exact kt
theorem d2_27 : decode jdk_42_method_149_code 27 = .ok (.getstatic 38, 3) := by decide +kernel
theorem d2_30 : decode jdk_42_method_149_code 30 = .ok (.ifCond .eq 28, 3) := by decide +kernel
theorem d2_33 : decode jdk_42_method_149_code 33 = .ok (.aload_n 1, 1) := by decide +kernel
theorem d2_34 : decode jdk_42_method_149_code 34 = .ok (.iload_n 2, 1) := by decide +kernel
theorem d2_35 : decode jdk_42_method_149_code 35 = .ok (.iload_n 3, 1) := by decide +kernel
theorem d2_36 : decode jdk_42_method_149_code 36 = .ok (.invokestatic 177, 3) := by decide +kernel
theorem d4_0 : decode jdk_52_method_16_code 0 = .ok (.iload_n 2, 1) := by decide +kernel
theorem d4_1 : decode jdk_52_method_16_code 1 = .ok (.newarray .byte, 2) := by decide +kernel
theorem d4_3 : decode jdk_52_method_16_code 3 = .ok (.astore_n 3, 1) := by decide +kernel
theorem d4_4 : decode jdk_52_method_16_code 4 = .ok (.aload_n 0, 1) := by decide +kernel
theorem d4_5 : decode jdk_52_method_16_code 5 = .ok (.iload_n 1, 1) := by decide +kernel
theorem d4_6 : decode jdk_52_method_16_code 6 = .ok (.aload_n 3, 1) := by decide +kernel
theorem d4_7 : decode jdk_52_method_16_code 7 = .ok (.iconst 0, 1) := by decide +kernel
theorem d4_8 : decode jdk_52_method_16_code 8 = .ok (.iload_n 2, 1) := by decide +kernel
theorem d4_9 : decode jdk_52_method_16_code 9 = .ok (.invokestatic 115, 3) := by decide +kernel
theorem d5_0 : decode jdk_52_method_21_code 0 = .ok (.iconst 0, 1) := by decide +kernel
theorem d5_1 : decode jdk_52_method_21_code 1 = .ok (.istore 5, 2) := by decide +kernel
theorem d5_3 : decode jdk_52_method_21_code 3 = .ok (.iload 5, 2) := by decide +kernel
theorem d5_5 : decode jdk_52_method_21_code 5 = .ok (.iload 4, 2) := by decide +kernel
theorem d5_7 : decode jdk_52_method_21_code 7 = .ok (.if_icmp .ge 37, 3) := by decide +kernel
theorem d5_10 : decode jdk_52_method_21_code 10 = .ok (.aload_n 0, 1) := by decide +kernel
theorem d5_11 : decode jdk_52_method_21_code 11 = .ok (.iload_n 1, 1) := by decide +kernel
theorem d5_12 : decode jdk_52_method_21_code 12 = .ok (.caload, 1) := by decide +kernel
theorem d5_13 : decode jdk_52_method_21_code 13 = .ok (.istore 6, 2) := by decide +kernel
theorem d5_15 : decode jdk_52_method_21_code 15 = .ok (.iload 6, 2) := by decide +kernel
theorem d5_17 : decode jdk_52_method_21_code 17 = .ok (.sipush 255, 3) := by decide +kernel
theorem d5_20 : decode jdk_52_method_21_code 20 = .ok (.if_icmp .le 6, 3) := by decide +kernel
theorem d5_26 : decode jdk_52_method_21_code 26 = .ok (.aload_n 2, 1) := by decide +kernel
theorem d5_27 : decode jdk_52_method_21_code 27 = .ok (.iload_n 3, 1) := by decide +kernel
theorem d5_28 : decode jdk_52_method_21_code 28 = .ok (.iload 6, 2) := by decide +kernel
theorem d5_30 : decode jdk_52_method_21_code 30 = .ok (.i2b, 1) := by decide +kernel
theorem d5_31 : decode jdk_52_method_21_code 31 = .ok (.bastore, 1) := by decide +kernel
theorem d5_32 : decode jdk_52_method_21_code 32 = .ok (.iinc 1 1, 3) := by decide +kernel
theorem d5_35 : decode jdk_52_method_21_code 35 = .ok (.iinc 3 1, 3) := by decide +kernel
theorem d5_38 : decode jdk_52_method_21_code 38 = .ok (.iinc 5 1, 3) := by decide +kernel
theorem d5_41 : decode jdk_52_method_21_code 41 = .ok (.goto (-38), 3) := by decide +kernel
theorem d5_44 : decode jdk_52_method_21_code 44 = .ok (.iload 4, 2) := by decide +kernel
theorem d5_46 : decode jdk_52_method_21_code 46 = .ok (.ireturn, 1) := by decide +kernel
theorem ef_5_RIRII (m : MethodId) (x0 : Addr) (x1 : Int32) (x2 : Addr) (x3 : Int32) (x4 : Int32) : entryFrame m #[(.ref x0), (.int x1), (.ref x2), (.int x3), (.int x4)] 7 = mkF m 0 #[vr x0, vi x1, vr x2, vi x3, vi x4, .unset, .unset] [] := by first | (simp [entryFrame, mkF, argsToLocals, Value.category]; done) | rfl
theorem pn_41 : plainName "java/lang/StringUTF16" = true := by first | (simp [plainName, overriddenIn]; done) | decide +kernel
def Qrm5 (Z : State) (a1 : Addr) (a2 : Addr) (k3 : ClassId) (p4 : Int32) (k8 : ClassId) (h0 : Heap) (n0 : Nat) (v : Option Value) (h : Heap) (L : List Loc) : Prop := v = some (.int 1) ∧ Fr n0 L ∧ Keep h0 h [a2] ∧ Arv Z h a2 k8 .byte (1 : Int32) [(.int (nar .byte (p4.toInt8.toInt32)))] (.int 0) ∧ Exa Z h a2 "[B"
set_option maxRecDepth 65536 in
set_option maxHeartbeats 40000000 in
theorem rm5 (l : Launch) (Z : State) (a0 : Array Value) (hw : ∀ d ∈ tables_1, d.before a0 Z = true) (ws : List Jvm.Cond) (a1 : Addr) (a2 : Addr) (k3 : ClassId) (p4 : Int32) (k8 : ClassId) (h0 : Heap) (n0 : Nat) (O0 : Old Z n0 h0) (V_5 : Arv Z h0 a1 k3 .char (1 : Int32) [(.int p4)] (.int 0)) (hc7 : ¬ ((255 : Int32) < p4)) (V_9 : Arv Z h0 a2 k8 .byte (1 : Int32) [] (.int 0)) (g_a2 : n0 ≤ a2) (E_13 : Exa Z h0 a2 "[B") :
    MF l Z h0 (⟨"java/lang/StringUTF16", "compress", "([CI[BII)I"⟩ : MethodName) jdk_52_method_21_code 7 (some .int) ws (⟨0, 0, 0, 0⟩ : Room) #[(.ref a1), (.int 0), (.ref a2), (.int 0), (.int 1)] (Qrm5 Z a1 a2 k3 p4 k8 h0 n0) := by
  refine MetFree.of_bodySF (plainFor_of_name pn_41) hisR ?_
  intro p e s m args below meth c s₁ Bd hml0 hP hK
  obtain ⟨rfl, hZ, hh⟩ := hP
  have hx := Bd.exec
  have hby := Bd.bytes
  have X0 : Stand p l e (⟨0, 0, 0, 0⟩ : Room) s m #[(.ref a1), (.int 0), (.ref a2), (.int 0), (.int 1)] below meth c s₁ [] 0 0 := Stand.of_body Bd
  have e0 : s₁.heap = h0 := by rw [← hh, Bd.state]; rfl
  have N0 := Fr.nil n0
  have pre0 : ∀ t, Steps p.tables e below (s₁.setTop (mkF m 0 #[vr a1, vi 0, vr a2, vi 0, vi 1, .unset, .unset] [])) t → Steps p.tables e below (s₁.setTop (entryFrame m #[(.ref a1), (.int 0), (.ref a2), (.int 0), (.int 1)] 7)) t := fun t k => castTop (ef_5_RIRII m a1 (0 : Int32) a2 (0 : Int32) (1 : Int32)) k
  obtain ⟨cl6, Ar6, q6, S6, M6, Hs6, G6⟩ := id V_5
  have hin6 : ¬ ((0 : Int32) < 0 ∨ cl6.slots.size ≤ ((0 : Int32)).toNatClampNeg) := inb_of S6 ⟨by decide, by decide⟩
  have hat6 : cl6.slots[((0 : Int32)).toNatClampNeg]? = some (.int p4) := Has.at Hs6 hin6 rfl
  have V10 : Arv Z h0 a2 k8 .byte (1 : Int32) [(.int 0)] (.int 0) := V_9.pad (pad_rep [] (.int 0) 1)
  obtain ⟨cl11, Ar11, q11, S11, M11, Hs11, G11⟩ := id V10
  have hin11 : ¬ ((0 : Int32) < 0 ∨ cl11.slots.size ≤ ((0 : Int32)).toNatClampNeg) := inb_of S11 ⟨by decide, by decide⟩
  obtain ⟨T12, h12, X12, e12, W12, st12⟩ := stB X0 hx hZ e0 Ar11 (j := (0 : Int32)) hin11 (g := (mkF m 31 #[vr a1, vi 0, vr a2, vi 0, vi 1, vi 0, vi p4] [(.int (p4.toInt8.toInt32)), (.int 0), (.ref a2)])) rfl rfl (hb hby d5_31)
  have K12 := (Keep.refl h0 [a2]).wr W12 (Or.inl (List.mem_of_getElem? (i := 0) rfl))
  have N12 := Fr.snoc X12 N0 g_a2
  have Vw12 : Arv Z h12 a2 k8 .byte (1 : Int32) [(.int (nar .byte (p4.toInt8.toInt32)))] (.int 0) := Arv.set Ar11 q11 S11 M11 Hs11 G11 (fits_nar_byte _) W12 0 rfl (Nat.le_of_ble_eq_true rfl)
  have f14 := (E_13.wr W12)
  obtain ⟨fs, hr, hrun, hended, hW, hsame⟩ := X12.leave (v := some (.int 1)) (fun h => by rw [Bd.returns] at h; cases h)
  refine ⟨_, _, pre0 _ ?_, hrun, hended, _, _, rfl, ?_, ⟨_, rfl⟩, hW, hsame.mono (by decide) (by decide)⟩
  · show Steps p.tables e below (s₁.setTop (mkF m 0 #[vr a1, vi 0, vr a2, vi 0, vi 1, .unset, .unset] [])) _
    refine XS.iconst X0.here hx rfl (hb hby d5_0) ?_
    refine XS.istore X0.here hx rfl (hb hby d5_1) rfl (l' := #[vr a1, vi 0, vr a2, vi 0, vi 1, vi 0, .unset]) rfl ?_
    refine XS.iload X0.here hx rfl (hb hby d5_3) rfl ?_
    refine XS.iload X0.here hx rfl (hb hby d5_5) rfl ?_
    refine XS.icmpNo X0.here hx rfl (hb hby d5_7) rfl (tlt ((by decide) : (0 : Int32) < (1 : Int32))).2.1 ?_
    refine XS.aloadN X0.here hx rfl (hb hby d5_10) rfl rfl ?_
    refine XS.iloadN X0.here hx rfl (hb hby d5_11) rfl ?_
    refine X0.caload hx (j := (0 : Int32)) (v := (.int p4)) (by rw [e0]; exact Ar6.1) (State.isArrayOf_alike hZ.alike Ar6.2.1) Ar6.2.2 hin6 hat6 (g := (mkF m 12 #[vr a1, vi 0, vr a2, vi 0, vi 1, vi 0, .unset] [(.int 0), (.ref a1)])) rfl rfl (hb hby d5_12) _ ?_
    refine XS.istore X0.here hx rfl (hb hby d5_13) rfl (l' := #[vr a1, vi 0, vr a2, vi 0, vi 1, vi 0, vi p4]) rfl ?_
    refine XS.iload X0.here hx rfl (hb hby d5_15) rfl ?_
    show Steps p.tables e below (s₁.setTop (mkF m 17 #[vr a1, vi 0, vr a2, vi 0, vi 1, vi 0, vi p4] [(.int p4)])) _
    refine XS.sipush X0.here hx rfl (hb hby d5_17) ?_
    refine XS.icmpYes X0.here hx rfl (pc0 := 20) (pc' := 26) rfl (hb hby d5_20) rfl (flt (hc7 : ¬ ((255 : Int32) < p4))).2.2.2 (by decide) (by decide) ?_
    refine XS.aloadN X0.here hx rfl (hb hby d5_26) rfl rfl ?_
    refine XS.iloadN X0.here hx rfl (hb hby d5_27) rfl ?_
    refine XS.iload X0.here hx rfl (hb hby d5_28) rfl ?_
    refine XS.i2b X0.here hx rfl (hb hby d5_30) rfl ?_
    refine st12 _ ?_
    refine XS.iinc X12.here hx rfl (hb hby d5_32) rfl (l' := #[vr a1, vi 1, vr a2, vi 0, vi 1, vi 0, vi p4]) rfl ?_
    refine XS.iinc X12.here hx rfl (hb hby d5_35) rfl (l' := #[vr a1, vi 1, vr a2, vi 1, vi 1, vi 0, vi p4]) rfl ?_
    refine XS.iinc X12.here hx rfl (hb hby d5_38) rfl (l' := #[vr a1, vi 1, vr a2, vi 1, vi 1, vi 1, vi p4]) rfl ?_
    show Steps p.tables e below (T12.setTop (mkF m 41 #[vr a1, vi 1, vr a2, vi 1, vi 1, vi 1, vi p4] [])) _
    refine XS.goto X12.here hx rfl (pc0 := 41) (pc' := 3) rfl (hb hby d5_41) (by decide) (by decide) ?_
    refine XS.iload X12.here hx rfl (hb hby d5_3) rfl ?_
    refine XS.iload X12.here hx rfl (hb hby d5_5) rfl ?_
    refine XS.icmpYes X12.here hx rfl (pc0 := 7) (pc' := 44) rfl (hb hby d5_7) rfl (flt ((by decide) : ¬ ((1 : Int32) < (1 : Int32)))).2.1 (by decide) (by decide) ?_
    refine XS.iload X12.here hx rfl (hb hby d5_44) rfl ?_
    exact retI X12 hx Bd.returns (hb hby d5_46) hr
  · show Qrm5 Z a1 a2 k3 p4 k8 h0 n0 _ T12.heap _
    rw [e12]
    exact ⟨rfl, N12, K12, Vw12, f14⟩
theorem pd_42 : parseMethodDescriptor "([CI[BII)I" = some ⟨[(.array .char), .int, (.array .byte), .int, .int], some .int⟩ := by decide +kernel
theorem d4_12 : decode jdk_52_method_16_code 12 = .ok (.istore 4, 2) := by decide +kernel
theorem d4_14 : decode jdk_52_method_16_code 14 = .ok (.iload 4, 2) := by decide +kernel
theorem d4_16 : decode jdk_52_method_16_code 16 = .ok (.iload_n 2, 1) := by decide +kernel
theorem d4_17 : decode jdk_52_method_16_code 17 = .ok (.if_icmp .eq 40, 3) := by decide +kernel
theorem d4_57 : decode jdk_52_method_16_code 57 = .ok (.aload_n 3, 1) := by decide +kernel
theorem d4_58 : decode jdk_52_method_16_code 58 = .ok (.areturn, 1) := by decide +kernel
theorem ef_4_RII (m : MethodId) (x0 : Addr) (x1 : Int32) (x2 : Int32) : entryFrame m #[(.ref x0), (.int x1), (.int x2)] 6 = mkF m 0 #[vr x0, vi x1, vi x2, .unset, .unset, .unset] [] := by first | (simp [entryFrame, mkF, argsToLocals, Value.category]; done) | rfl
def Qrm4 (Z : State) (a1 : Addr) (k3 : ClassId) (p4 : Int32) (h0 : Heap) (n0 : Nat) (v : Option Value) (h : Heap) (L : List Loc) : Prop := ∃ b2 : Addr, ∃ k2 : ClassId, v = some (.ref b2) ∧ Fr n0 L ∧ Keep h0 h [] ∧ h0.size ≤ b2 ∧ Exa Z h b2 "[B" ∧ Arv Z h b2 k2 .byte (1 : Int32) [(.int (nar .byte (p4.toInt8.toInt32)))] (.int 0)
set_option maxRecDepth 65536 in
set_option maxHeartbeats 40000000 in
theorem rm4 (l : Launch) (Z : State) (a0 : Array Value) (hw : ∀ d ∈ tables_1, d.before a0 Z = true) (ws : List Jvm.Cond) (a1 : Addr) (k3 : ClassId) (p4 : Int32) (h0 : Heap) (n0 : Nat) (O0 : Old Z n0 h0) (V_5 : Arv Z h0 a1 k3 .char (1 : Int32) [(.int p4)] (.int 0)) (hc6 : ¬ ((255 : Int32) < p4)) :
    MF l Z h0 (⟨"java/lang/StringUTF16", "compress", "([CII)[B"⟩ : MethodName) jdk_52_method_16_code 6 (some (.array .byte)) ws (⟨1, 1, 1, 18⟩ : Room) #[(.ref a1), (.int 0), (.int 1)] (Qrm4 Z a1 k3 p4 h0 n0) := by
  refine MetFree.of_bodySF (plainFor_of_name pn_41) hisR ?_
  intro p e s m args below meth c s₁ Bd hml0 hP hK
  obtain ⟨rfl, hZ, hh⟩ := hP
  have hx := Bd.exec
  have hby := Bd.bytes
  have hml : c.maxLocals = 6 := hml0
  have hown : s.vm.findClass "java/lang/StringUTF16" = some m.cls := findClass_of_methodNamed Bd.named
  have X0 : Stand p l e (⟨1, 1, 1, 18⟩ : Room) s m #[(.ref a1), (.int 0), (.int 1)] below meth c s₁ [] 0 0 := Stand.of_body Bd
  have e0 : s₁.heap = h0 := by rw [← hh, Bd.state]; rfl
  have N0 := Fr.nil n0
  have pre0 : ∀ t, Steps p.tables e below (s₁.setTop (mkF m 0 #[vr a1, vi 0, vi 1, .unset, .unset, .unset] [])) t → Steps p.tables e below (s₁.setTop (entryFrame m #[(.ref a1), (.int 0), (.int 1)] 6)) t := fun t k => castTop (ef_4_RII m a1 (0 : Int32) (1 : Int32)) k
  obtain ⟨T2, h2, k2, X2, e2, E2, A2, B2, st2⟩ := newPE X0 hx hZ (W hw 19 rfl) e0 (g := (mkF m 1 #[vr a1, vi 0, vi 1, .unset, .unset, .unset] [(.int 1)])) rfl (hb hby d4_1) rfl (by decide) (cap := 1) (by decide) (by decide) (by decide) (by decide) (ad := "[B") (by decide)
  obtain ⟨b2, g2⟩ : ∃ z, z = h0.size := ⟨_, rfl⟩
  rw [← g2] at A2 B2 st2
  have g_b2 := own_born O0 (own_eqle g2)
  have sz_b2 := Nat.le_trans (Keep.refl h0 []).1 (own_eqle g2)
  have K2 := (Keep.refl h0 []).ext E2
  have O2 := O0.ext E2
  have V2 : Arv Z h2 b2 k2 .byte (1 : Int32) [] (.int 0) := Arv.new A2 (by decide)
  have f7 := (V_5.ext E2)
  obtain ⟨_, T8, L8, X8, hQ8, st8⟩ := cS X2 hx hZ hown (W hw 20 rfl) (W hw 21 rfl) (W hw 17 rfl) (W hw 22 rfl) (by decide) (rm5 l Z a0 hw [] a1 b2 k3 p4 k2 h2 n0 O2 f7 hc6 V2 g_b2 B2) e2 #[vr a1, vi 0, vi 1, vr b2, .unset, .unset] [] (by rw [hml]; rfl) (hb hby d4_9) pd_42 rfl (W := 0) (Nat.le_of_eq rfl) (by decide) (by decide) (by decide) (by decide)
  obtain ⟨rfl, Nq8, K8, P8_0, P8_1⟩ := hQ8
  have N8 := Fr.app N0 Nq8
  have KK8 := Keep.trans (h := h2) K2 K8 (allS (Or.inr sz_b2) all0)
  obtain ⟨fs, hr, hrun, hended, hW, hsame⟩ := X8.leave (v := some (.ref b2)) (fun h => by rw [Bd.returns] at h; cases h)
  refine ⟨_, _, pre0 _ ?_, hrun, hended, _, _, rfl, ?_, ⟨_, rfl⟩, hW, hsame.mono (by decide) (by decide)⟩
  · show Steps p.tables e below (s₁.setTop (mkF m 0 #[vr a1, vi 0, vi 1, .unset, .unset, .unset] [])) _
    refine XS.iloadN X0.here hx rfl (hb hby d4_0) rfl ?_
    refine st2 _ ?_
    refine XS.astoreN X2.here hx rfl (hb hby d4_3) rfl rfl (l' := #[vr a1, vi 0, vi 1, vr b2, .unset, .unset]) rfl ?_
    refine XS.aloadN X2.here hx rfl (hb hby d4_4) rfl rfl ?_
    refine XS.iloadN X2.here hx rfl (hb hby d4_5) rfl ?_
    refine XS.aloadN X2.here hx rfl (hb hby d4_6) rfl rfl ?_
    refine XS.iconst X2.here hx rfl (hb hby d4_7) ?_
    refine XS.iloadN X2.here hx rfl (hb hby d4_8) rfl ?_
    refine st8 _ ?_
    refine XS.istore X8.here hx rfl (hb hby d4_12) rfl (l' := #[vr a1, vi 0, vi 1, vr b2, vi 1, .unset]) rfl ?_
    show Steps p.tables e below (T8.setTop (mkF m 14 #[vr a1, vi 0, vi 1, vr b2, vi 1, .unset] [])) _
    refine XS.iload X8.here hx rfl (hb hby d4_14) rfl ?_
    refine XS.iloadN X8.here hx rfl (hb hby d4_16) rfl ?_
    refine XS.icmpYes X8.here hx rfl (pc0 := 17) (pc' := 57) rfl (hb hby d4_17) rfl (teq ((by decide) : (1 : Int32) = (1 : Int32))).1 (by decide) (by decide) ?_
    refine XS.aloadN X8.here hx rfl (hb hby d4_57) rfl rfl ?_
    jvm_step X8.here [X8.here.top, hx, (hb hby d4_58), X8.method', Bd.returns, Value.isRef, FieldType.isReference]
    first | (intro acts; rw [hr _ acts rfl rfl rfl]) | rw [hr _ _ rfl rfl rfl]
    exact Steps.refl _
  · show Qrm4 Z a1 k3 p4 h0 n0 _ T8.heap _
    exact ⟨b2, k2, rfl, N8, KK8, sz_b2, P8_1, P8_0⟩
theorem pd_43 : parseMethodDescriptor "([CII)[B" = some ⟨[(.array .char), .int, .int], some (.array .byte)⟩ := by decide +kernel
theorem d2_39 : decode jdk_42_method_149_code 39 = .ok (.astore 5, 2) := by decide +kernel
theorem d2_41 : decode jdk_42_method_149_code 41 = .ok (.aload_n 0, 1) := by decide +kernel
theorem d2_42 : decode jdk_42_method_149_code 42 = .ok (.aload 5, 2) := by decide +kernel
theorem d2_44 : decode jdk_42_method_149_code 44 = .ok (.iload_n 3, 1) := by decide +kernel
theorem d2_45 : decode jdk_42_method_149_code 45 = .ok (.invokestatic 47, 3) := by decide +kernel
theorem d6_0 : decode jdk_52_method_15_code 0 = .ok (.iload_n 1, 1) := by decide +kernel
theorem d6_1 : decode jdk_52_method_15_code 1 = .ok (.aload_n 0, 1) := by decide +kernel
theorem d6_2 : decode jdk_52_method_15_code 2 = .ok (.arraylength, 1) := by decide +kernel
theorem d6_3 : decode jdk_52_method_15_code 3 = .ok (.isub, 1) := by decide +kernel
theorem d6_4 : decode jdk_52_method_15_code 4 = .ok (.bipush 31, 2) := by decide +kernel
theorem d6_6 : decode jdk_52_method_15_code 6 = .ok (.iushr, 1) := by decide +kernel
theorem d6_7 : decode jdk_52_method_15_code 7 = .ok (.i2b, 1) := by decide +kernel
theorem d6_8 : decode jdk_52_method_15_code 8 = .ok (.ireturn, 1) := by decide +kernel
theorem ef_6_RI (m : MethodId) (x0 : Addr) (x1 : Int32) : entryFrame m #[(.ref x0), (.int x1)] 2 = mkF m 0 #[vr x0, vi x1] [] := by first | (simp [entryFrame, mkF, argsToLocals, Value.category]; done) | rfl
def Qrm6 (Z : State) (a1 : Addr) (k2 : ClassId) (p3 : Int32) (h0 : Heap) (n0 : Nat) (v : Option Value) (h : Heap) (L : List Loc) : Prop := v = some (.int 0) ∧ Fr n0 L ∧ h = h0
set_option maxRecDepth 65536 in
set_option maxHeartbeats 40000000 in
theorem rm6 (l : Launch) (Z : State) (a0 : Array Value) (hw : ∀ d ∈ tables_1, d.before a0 Z = true) (ws : List Jvm.Cond) (a1 : Addr) (k2 : ClassId) (p3 : Int32) (h0 : Heap) (n0 : Nat) (O0 : Old Z n0 h0) (V_4 : Arv Z h0 a1 k2 .byte (1 : Int32) [(.int p3)] (.int 0)) :
    MF l Z h0 (⟨"java/lang/StringUTF16", "coderFromArrayLen", "([BI)B"⟩ : MethodName) jdk_52_method_15_code 2 (some .byte) ws (⟨0, 0, 0, 0⟩ : Room) #[(.ref a1), (.int 1)] (Qrm6 Z a1 k2 p3 h0 n0) := by
  refine MetFree.of_bodySF (plainFor_of_name pn_41) hisR ?_
  intro p e s m args below meth c s₁ Bd hml0 hP hK
  obtain ⟨rfl, hZ, hh⟩ := hP
  have hx := Bd.exec
  have hby := Bd.bytes
  have X0 : Stand p l e (⟨0, 0, 0, 0⟩ : Room) s m #[(.ref a1), (.int 1)] below meth c s₁ [] 0 0 := Stand.of_body Bd
  have e0 : s₁.heap = h0 := by rw [← hh, Bd.state]; rfl
  have N0 := Fr.nil n0
  have pre0 : ∀ t, Steps p.tables e below (s₁.setTop (mkF m 0 #[vr a1, vi 1] [])) t → Steps p.tables e below (s₁.setTop (entryFrame m #[(.ref a1), (.int 1)] 2)) t := fun t k => castTop (ef_6_RI m a1 (1 : Int32)) k
  obtain ⟨cl5, Ar5, q5, S5, M5, Hs5, G5⟩ := id V_4
  obtain ⟨fs, hr, hrun, hended, hW, hsame⟩ := X0.leave (v := some (.int 0)) (fun h => by rw [Bd.returns] at h; cases h)
  refine ⟨_, _, pre0 _ ?_, hrun, hended, _, _, rfl, ?_, ⟨_, rfl⟩, hW, hsame.mono (by decide) (by decide)⟩
  · show Steps p.tables e below (s₁.setTop (mkF m 0 #[vr a1, vi 1] [])) _
    refine XS.iloadN X0.here hx rfl (hb hby d6_0) rfl ?_
    refine XS.aloadN X0.here hx rfl (hb hby d6_1) rfl rfl ?_
    refine X0.arraylength hx (by rw [e0]; exact Ar5.1) (State.isArrayOf_alike hZ.alike Ar5.2.1) (g := (mkF m 2 #[vr a1, vi 1] [(.ref a1), (.int 1)])) rfl rfl (hb hby d6_2) _ ?_
    rw [len_of S5 M5]
    refine XS.isub X0.here hx rfl (hb hby d6_3) rfl ?_
    show Steps p.tables e below (s₁.setTop (mkF m 4 #[vr a1, vi 1] [(.int ((1 : Int32) - (1 : Int32)))])) _
    rw [show ((1 : Int32) - (1 : Int32)) = (0 : Int32) from by decide]
    refine XS.bipush X0.here hx rfl (hb hby d6_4) ?_
    refine XS.iushr X0.here hx rfl (hb hby d6_6) rfl ?_
    show Steps p.tables e below (s₁.setTop (mkF m 7 #[vr a1, vi 1] [(.int (((0 : Int32).toUInt32 >>> ((31 : Int32) &&& 31).toUInt32).toInt32))])) _
    rw [show (((0 : Int32).toUInt32 >>> ((31 : Int32) &&& 31).toUInt32).toInt32) = (0 : Int32) from by decide]
    refine XS.i2b X0.here hx rfl (hb hby d6_7) rfl ?_
    show Steps p.tables e below (s₁.setTop (mkF m 8 #[vr a1, vi 1] [(.int ((0 : Int32).toInt8.toInt32))])) _
    rw [show ((0 : Int32).toInt8.toInt32) = (0 : Int32) from by decide]
    exact retN X0 hx (t := .byte) Bd.returns (by simp) (hb hby d6_8) hr
  · show Qrm6 Z a1 k2 p3 h0 n0 _ s₁.heap _
    rw [e0]
    exact ⟨rfl, N0, rfl⟩
theorem pd_44 : parseMethodDescriptor "([BI)B" = some ⟨[(.array .byte), .int], some .byte⟩ := by decide +kernel
theorem d2_48 : decode jdk_42_method_149_code 48 = .ok (.putfield 15, 3) := by decide +kernel
theorem d2_51 : decode jdk_42_method_149_code 51 = .ok (.aload_n 0, 1) := by decide +kernel
theorem d2_52 : decode jdk_42_method_149_code 52 = .ok (.aload 5, 2) := by decide +kernel
theorem d2_54 : decode jdk_42_method_149_code 54 = .ok (.putfield 9, 3) := by decide +kernel
theorem d2_57 : decode jdk_42_method_149_code 57 = .ok (.return_, 1) := by decide +kernel
def Qrm2_1 (Z : State) (a1 : Addr) (a2 : Addr) (p4 : Int32) (k8 : ClassId) (p9 : Int32) (h0 : Heap) (n0 : Nat) (v : Option Value) (h : Heap) (L : List Loc) : Prop := ∃ b13 : Addr, ∃ k14 : ClassId, v = none ∧ Fr n0 L ∧ Keep h0 h [a1] ∧ h0.size ≤ b13 ∧ Exa Z h a1 "java/lang/String" ∧ Fld Z h a1 "java/lang/String" "coder" "B" (.int 0) ∧ Fld Z h a1 "java/lang/String" "value" "[B" (.ref b13) ∧ Exa Z h b13 "[B" ∧ Arv Z h b13 k14 .byte (1 : Int32) [(.int (nar .byte (p9.toInt8.toInt32)))] (.int 0)
set_option maxRecDepth 65536 in
set_option maxHeartbeats 40000000 in
theorem rm2_1 (l : Launch) (Z : State) (a0 : Array Value) (hw : ∀ d ∈ tables_1, d.before a0 Z = true) (ws : List Jvm.Cond) (a1 : Addr) (a2 : Addr) (p4 : Int32) (k8 : ClassId) (p9 : Int32) (h0 : Heap) (n0 : Nat) (O0 : Old Z n0 h0) (S_5 : Sta Z Z.heap "java/lang/String" "COMPACT_STRINGS" "Z" (.int p4)) (hc7 : ¬ (p4 = (0 : Int32))) (V_10 : Arv Z h0 a2 k8 .char (1 : Int32) [(.int p9)] (.int 0)) (hc11 : ¬ ((255 : Int32) < p9)) (E_17 : Exa Z h0 a1 "java/lang/String") (F_18 : Fld Z h0 a1 "java/lang/String" "coder" "B" (.int 0)) (g_a1 : n0 ≤ a1) (F_22 : Fld Z h0 a1 "java/lang/String" "value" "[B" .null) :
    MF l Z h0 (⟨"java/lang/String", "<init>", "([CIILjava/lang/Void;)V"⟩ : MethodName) jdk_42_method_149_code 6 none ws (⟨2, 1, 1, 35⟩ : Room) #[(.ref a1), (.ref a2), (.int 0), (.int 1), .null] (Qrm2_1 Z a1 a2 p4 k8 p9 h0 n0) := by
  refine MetFree.of_bodySF (plainFor_of_name pn_0) hisR ?_
  intro p e s m args below meth c s₁ Bd hml0 hP hK
  obtain ⟨rfl, hZ, hh⟩ := hP
  have hx := Bd.exec
  have hby := Bd.bytes
  have hml : c.maxLocals = 6 := hml0
  have hown : s.vm.findClass "java/lang/String" = some m.cls := findClass_of_methodNamed Bd.named
  have hnm := (name_of_methodNamed Bd.named Bd.method).1
  have X0 : Stand p l e (⟨2, 1, 1, 35⟩ : Room) s m #[(.ref a1), (.ref a2), (.int 0), (.int 1), .null] below meth c s₁ [] 0 0 := Stand.of_body Bd
  have e0 : s₁.heap = h0 := by rw [← hh, Bd.state]; rfl
  have N0 := Fr.nil n0
  have pre0 : ∀ t, Steps p.tables e below (s₁.setTop (mkF m 0 #[vr a1, vr a2, vi 0, vi 1, .val .null, .unset] [])) t → Steps p.tables e below (s₁.setTop (entryFrame m #[(.ref a1), (.ref a2), (.int 0), (.int 1), .null] 6)) t := fun t k => castTop (ef_2_RRIIn m a1 a2 (0 : Int32) (1 : Int32)) k
  obtain ⟨T3, X3, e3, st3⟩ := initO X0 hx hZ hown (W hw 11 rfl) (W hw 12 rfl) (W hw 13 rfl) e0 (g := (mkF m 1 #[vr a1, vr a2, vi 0, vi 1, .val .null, .unset] [(.ref a1)])) rfl (by rw [hml]; rfl) rfl (hb hby d2_1) (by decide) (W := 0) (by show 2 * 0 + _ ≤ _; exact Nat.le_of_eq rfl) (by decide)
  obtain ⟨T6, X6, e6, st6⟩ := getS2 X3 hx hZ hown (host := "") (Or.inl (W hw 14 rfl)) Via.refl e3 (S_5.ext O0.2) (g := (mkF m 27 #[vr a1, vr a2, vi 0, vi 1, .val .null, .unset] [])) rfl (hb hby d2_27)
  obtain ⟨_, T12, L12, X12, hQ12, st12⟩ := cS X6 hx hZ hown (W hw 15 rfl) (W hw 16 rfl) (W hw 17 rfl) (W hw 18 rfl) (by decide) (rm4 l Z a0 hw [] a2 k8 p9 h0 n0 O0 V_10 hc11) e6 #[vr a1, vr a2, vi 0, vi 1, .val .null, .unset] [] (by rw [hml]; rfl) (hb hby d2_36) pd_43 rfl (W := 0) (Nat.le_of_eq rfl) (by decide) (by decide) (by decide) (by decide)
  obtain ⟨b13, k14, rfl, Nq12, K12, sq12_b13, P12_0, P12_1⟩ := hQ12
  have N12 := Fr.app N0 Nq12
  have sz_b13 := Nat.le_trans (Keep.refl h0 [a1]).1 sq12_b13
  have KK12 := Keep.trans (h := h0) (Keep.refl h0 [a1]) K12 all0
  have O12 := O0.keep K12 all0
  obtain ⟨_, T16, L16, X16, hQ16, st16⟩ := cS X12 hx hZ hown (W hw 23 rfl) (W hw 24 rfl) (W hw 17 rfl) (W hw 25 rfl) (by decide) (rm6 l Z a0 hw [] b13 k14 (nar .byte (p9.toInt8.toInt32)) T12.heap n0 O12 P12_1) rfl #[vr a1, vr a2, vi 0, vi 1, .val .null, vr b13] [(.ref a1)] (by rw [hml]; rfl) (hb hby d2_45) pd_44 rfl (W := 1) (Nat.le_of_eq rfl) (by decide) (by decide) (by decide) (by decide)
  obtain ⟨rfl, Nq16, e16⟩ := hQ16
  have N16 := Fr.app N12 Nq16
  have f19 := (F_18.keep K12 nin0)
  have f20 := (E_17.keep K12)
  obtain ⟨T21, h21, X21, e21, W21, st21⟩ := putFN X16 hx hZ hown (W hw 26 rfl) Via.refl e16 f19 f20 (Or.inr ⟨(W hw 27 rfl), rfl, hnm⟩) (W hw 1 rfl) (ty := .byte) (v' := (.int 0)) (by decide) rfl rfl (g := (mkF m 48 #[vr a1, vr a2, vi 0, vi 1, .val .null, vr b13] [(.int 0), (.ref a1)])) rfl rfl (hb hby d2_48)
  have K21 := KK12.wr W21 (Or.inl (List.mem_of_getElem? (i := 0) rfl))
  have N21 := Fr.snoc X21 N16 g_a1
  have Fw21 := f19.same W21
  have f23 := ((F_22.keep K12 nin0).other W21 (Or.inr (slot_ne (Or.inr (W hw 29 rfl)) (Or.inr (W hw 27 rfl)) (by decide) (t := (.array .byte)) (t' := .byte) (by decide) (by decide))))
  have f24 := (f20.wr W21)
  obtain ⟨T25, h25, X25, e25, W25, st25⟩ := putF X21 hx hZ hown (host := "") (Or.inl (W hw 28 rfl)) Via.refl e21 f23 f24 (Or.inr ⟨(W hw 29 rfl), rfl, hnm⟩) (W hw 1 rfl) (ty := (.array .byte)) (by decide) rfl rfl (g := (mkF m 54 #[vr a1, vr a2, vi 0, vi 1, .val .null, vr b13] [(.ref b13), (.ref a1)])) rfl rfl (hb hby d2_54)
  have K25 := K21.wr W25 (Or.inl (List.mem_of_getElem? (i := 0) rfl))
  have N25 := Fr.snoc X25 N21 g_a1
  have Fw25 := f23.same W25
  have f26 := (f24.wr W25)
  have f27 := (Fw21.other W25 (Or.inr (slot_ne (Or.inr (W hw 27 rfl)) (Or.inr (W hw 29 rfl)) (by decide) (t := .byte) (t' := (.array .byte)) (by decide) (by decide))))
  have f28 := ((P12_0.wr W21).wr W25)
  have f29 := ((P12_1.other W21 (Ne.symm (own_ltn E_17.lt sz_b13))).other W25 (Ne.symm (own_ltn E_17.lt sz_b13)))
  obtain ⟨fs, hr, hrun, hended, hW, hsame⟩ := X25.leave (v := none) (fun _ => rfl)
  refine ⟨_, _, pre0 _ ?_, hrun, hended, _, _, rfl, ?_, ⟨_, rfl⟩, hW, hsame.mono (by decide) (by decide)⟩
  · show Steps p.tables e below (s₁.setTop (mkF m 0 #[vr a1, vr a2, vi 0, vi 1, .val .null, .unset] [])) _
    refine XS.aloadN X0.here hx rfl (hb hby d2_0) rfl rfl ?_
    refine st3 _ ?_
    refine XS.iloadN X3.here hx rfl (hb hby d2_4) rfl ?_
    refine XS.ifYes X3.here hx rfl (pc0 := 5) (pc' := 27) rfl (hb hby d2_5) rfl ((if0 _ _).trans (feq ((by decide) : ¬ ((1 : Int32) = (0 : Int32)))).2) (by decide) (by decide) ?_
    refine st6 _ ?_
    refine XS.ifNo X6.here hx rfl (hb hby d2_30) rfl ((if0 _ _).trans (feq (hc7 : ¬ (p4 = (0 : Int32)))).1) ?_
    refine XS.aloadN X6.here hx rfl (hb hby d2_33) rfl rfl ?_
    refine XS.iloadN X6.here hx rfl (hb hby d2_34) rfl ?_
    refine XS.iloadN X6.here hx rfl (hb hby d2_35) rfl ?_
    refine st12 _ ?_
    show Steps p.tables e below (T12.setTop (mkF m 39 #[vr a1, vr a2, vi 0, vi 1, .val .null, .unset] [(.ref b13)])) _
    refine XS.astore X12.here hx rfl (hb hby d2_39) rfl rfl (l' := #[vr a1, vr a2, vi 0, vi 1, .val .null, vr b13]) rfl ?_
    refine XS.aloadN X12.here hx rfl (hb hby d2_41) rfl rfl ?_
    refine XS.aload X12.here hx rfl (hb hby d2_42) rfl rfl ?_
    refine XS.iloadN X12.here hx rfl (hb hby d2_44) rfl ?_
    refine st16 _ ?_
    refine st21 _ ?_
    refine XS.aloadN X21.here hx rfl (hb hby d2_51) rfl rfl ?_
    refine XS.aload X21.here hx rfl (hb hby d2_52) rfl rfl ?_
    refine st25 _ ?_
    exact X25.returnOut hx Bd.returns (hb hby d2_57) hr
  · show Qrm2_1 Z a1 a2 p4 k8 p9 h0 n0 _ T25.heap _
    rw [e25]
    exact ⟨b13, k14, rfl, N25, K25, sz_b13, f26, f27, Fw25, f28, f29⟩
def Qrm1_1 (Z : State) (a1 : Addr) (a2 : Addr) (k3 : ClassId) (p4 : Int32) (p7 : Int32) (h0 : Heap) (n0 : Nat) (v : Option Value) (h : Heap) (L : List Loc) : Prop := ∃ b15 : Addr, ∃ k16 : ClassId, v = none ∧ Fr n0 L ∧ Keep h0 h [a1] ∧ h0.size ≤ b15 ∧ Exa Z h a1 "java/lang/String" ∧ Fld Z h a1 "java/lang/String" "coder" "B" (.int 0) ∧ Fld Z h a1 "java/lang/String" "value" "[B" (.ref b15) ∧ Exa Z h b15 "[B" ∧ Arv Z h b15 k16 .byte (1 : Int32) [(.int (nar .byte (p4.toInt8.toInt32)))] (.int 0)
set_option maxRecDepth 65536 in
set_option maxHeartbeats 40000000 in
theorem rm1_1 (l : Launch) (Z : State) (a0 : Array Value) (hw : ∀ d ∈ tables_1, d.before a0 Z = true) (ws : List Jvm.Cond) (a1 : Addr) (a2 : Addr) (k3 : ClassId) (p4 : Int32) (p7 : Int32) (h0 : Heap) (n0 : Nat) (O0 : Old Z n0 h0) (V_5 : Arv Z h0 a2 k3 .char (1 : Int32) [(.int p4)] (.int 0)) (S_8 : Sta Z Z.heap "java/lang/String" "COMPACT_STRINGS" "Z" (.int p7)) (hc9 : ¬ (p7 = (0 : Int32))) (hc10 : ¬ ((255 : Int32) < p4)) (E_11 : Exa Z h0 a1 "java/lang/String") (F_12 : Fld Z h0 a1 "java/lang/String" "coder" "B" (.int 0)) (g_a1 : n0 ≤ a1) (F_13 : Fld Z h0 a1 "java/lang/String" "value" "[B" .null) :
    MF l Z h0 (⟨"java/lang/String", "<init>", "([C)V"⟩ : MethodName) jdk_42_method_3_code 2 none ws (⟨3, 1, 1, 52⟩ : Room) #[(.ref a1), (.ref a2)] (Qrm1_1 Z a1 a2 k3 p4 p7 h0 n0) := by
  refine MetFree.of_bodySF (plainFor_of_name pn_0) hisR ?_
  intro p e s m args below meth c s₁ Bd hml0 hP hK
  obtain ⟨rfl, hZ, hh⟩ := hP
  have hx := Bd.exec
  have hby := Bd.bytes
  have hml : c.maxLocals = 2 := hml0
  have hown : s.vm.findClass "java/lang/String" = some m.cls := findClass_of_methodNamed Bd.named
  have X0 : Stand p l e (⟨3, 1, 1, 52⟩ : Room) s m #[(.ref a1), (.ref a2)] below meth c s₁ [] 0 0 := Stand.of_body Bd
  have e0 : s₁.heap = h0 := by rw [← hh, Bd.state]; rfl
  have N0 := Fr.nil n0
  have pre0 : ∀ t, Steps p.tables e below (s₁.setTop (mkF m 0 #[vr a1, vr a2] [])) t → Steps p.tables e below (s₁.setTop (entryFrame m #[(.ref a1), (.ref a2)] 2)) t := fun t k => castTop (ef_1_RR m a1 a2) k
  obtain ⟨cl6, Ar6, q6, S6, M6, Hs6, G6⟩ := id V_5
  obtain ⟨_, T14, L14, X14, hQ14, st14⟩ := cI X0 hx hZ hown (W hw 7 rfl) (W hw 8 rfl) (W hw 10 rfl) (W hw 2 rfl) rfl (by decide) (rm2_1 l Z a0 hw [] a1 a2 p7 k3 p4 h0 n0 O0 S_8 hc9 V_5 hc10 E_11 F_12 g_a1 F_13) e0 #[vr a1, vr a2] [] (by rw [hml]; rfl) (hb hby d1_6) pd_1 rfl (W := 0) (Nat.le_of_eq rfl) (by decide) (by decide) (by decide) (by decide)
  obtain ⟨b15, k16, rfl, Nq14, K14, sq14_b15, P14_0, P14_1, P14_2, P14_3, P14_4⟩ := hQ14
  have N14 := Fr.app N0 Nq14
  have sz_b15 := Nat.le_trans (Keep.refl h0 [a1]).1 sq14_b15
  have KK14 := Keep.trans (h := h0) (Keep.refl h0 [a1]) K14 (allS (Or.inl (List.mem_of_getElem? (i := 0) rfl)) all0)
  obtain ⟨fs, hr, hrun, hended, hW, hsame⟩ := X14.leave (v := none) (fun _ => rfl)
  refine ⟨_, _, pre0 _ ?_, hrun, hended, _, _, rfl, ?_, ⟨_, rfl⟩, hW, hsame.mono (by decide) (by decide)⟩
  · show Steps p.tables e below (s₁.setTop (mkF m 0 #[vr a1, vr a2] [])) _
    refine XS.aloadN X0.here hx rfl (hb hby d1_0) rfl rfl ?_
    refine XS.aloadN X0.here hx rfl (hb hby d1_1) rfl rfl ?_
    refine XS.iconst X0.here hx rfl (hb hby d1_2) ?_
    refine XS.aloadN X0.here hx rfl (hb hby d1_3) rfl rfl ?_
    refine X0.arraylength hx (by rw [e0]; exact Ar6.1) (State.isArrayOf_alike hZ.alike Ar6.2.1) (g := (mkF m 4 #[vr a1, vr a2] [(.ref a2), (.int 0), (.ref a2), (.ref a1)])) rfl rfl (hb hby d1_4) _ ?_
    rw [len_of S6 M6]
    refine XS.aconstNull X0.here hx rfl (hb hby d1_5) ?_
    refine st14 _ ?_
    exact X14.returnOut hx Bd.returns (hb hby d1_9) hr
  · show Qrm1_1 Z a1 a2 k3 p4 p7 h0 n0 _ T14.heap _
    exact ⟨b15, k16, rfl, N14, KK14, sz_b15, P14_0, P14_1, P14_2, P14_3, P14_4⟩
def Qrm5_1 (Z : State) (a1 : Addr) (a2 : Addr) (k3 : ClassId) (p4 : Int32) (p5 : Int32) (k9 : ClassId) (h0 : Heap) (n0 : Nat) (v : Option Value) (h : Heap) (L : List Loc) : Prop := v = some (.int 2) ∧ Fr n0 L ∧ Keep h0 h [a2] ∧ Arv Z h a2 k9 .byte (2 : Int32) [(.int (nar .byte (p4.toInt8.toInt32))), (.int (nar .byte (p5.toInt8.toInt32)))] (.int 0) ∧ Exa Z h a2 "[B"
set_option maxRecDepth 65536 in
set_option maxHeartbeats 40000000 in
theorem rm5_1 (l : Launch) (Z : State) (a0 : Array Value) (hw : ∀ d ∈ tables_1, d.before a0 Z = true) (ws : List Jvm.Cond) (a1 : Addr) (a2 : Addr) (k3 : ClassId) (p4 : Int32) (p5 : Int32) (k9 : ClassId) (h0 : Heap) (n0 : Nat) (O0 : Old Z n0 h0) (V_6 : Arv Z h0 a1 k3 .char (2 : Int32) [(.int p4), (.int p5)] (.int 0)) (hc8 : ¬ ((255 : Int32) < p4)) (V_10 : Arv Z h0 a2 k9 .byte (2 : Int32) [] (.int 0)) (g_a2 : n0 ≤ a2) (E_14 : Exa Z h0 a2 "[B") (ne_a1_a2 : a1 ≠ a2) (hc17 : ¬ ((255 : Int32) < p5)) :
    MF l Z h0 (⟨"java/lang/StringUTF16", "compress", "([CI[BII)I"⟩ : MethodName) jdk_52_method_21_code 7 (some .int) ws (⟨0, 0, 0, 0⟩ : Room) #[(.ref a1), (.int 0), (.ref a2), (.int 0), (.int 2)] (Qrm5_1 Z a1 a2 k3 p4 p5 k9 h0 n0) := by
  refine MetFree.of_bodySF (plainFor_of_name pn_41) hisR ?_
  intro p e s m args below meth c s₁ Bd hml0 hP hK
  obtain ⟨rfl, hZ, hh⟩ := hP
  have hx := Bd.exec
  have hby := Bd.bytes
  have X0 : Stand p l e (⟨0, 0, 0, 0⟩ : Room) s m #[(.ref a1), (.int 0), (.ref a2), (.int 0), (.int 2)] below meth c s₁ [] 0 0 := Stand.of_body Bd
  have e0 : s₁.heap = h0 := by rw [← hh, Bd.state]; rfl
  have N0 := Fr.nil n0
  have pre0 : ∀ t, Steps p.tables e below (s₁.setTop (mkF m 0 #[vr a1, vi 0, vr a2, vi 0, vi 2, .unset, .unset] [])) t → Steps p.tables e below (s₁.setTop (entryFrame m #[(.ref a1), (.int 0), (.ref a2), (.int 0), (.int 2)] 7)) t := fun t k => castTop (ef_5_RIRII m a1 (0 : Int32) a2 (0 : Int32) (2 : Int32)) k
  obtain ⟨cl7, Ar7, q7, S7, M7, Hs7, G7⟩ := id V_6
  have hin7 : ¬ ((0 : Int32) < 0 ∨ cl7.slots.size ≤ ((0 : Int32)).toNatClampNeg) := inb_of S7 ⟨by decide, by decide⟩
  have hat7 : cl7.slots[((0 : Int32)).toNatClampNeg]? = some (.int p4) := Has.at Hs7 hin7 rfl
  have V11 : Arv Z h0 a2 k9 .byte (2 : Int32) [(.int 0)] (.int 0) := V_10.pad (pad_rep [] (.int 0) 1)
  obtain ⟨cl12, Ar12, q12, S12, M12, Hs12, G12⟩ := id V11
  have hin12 : ¬ ((0 : Int32) < 0 ∨ cl12.slots.size ≤ ((0 : Int32)).toNatClampNeg) := inb_of S12 ⟨by decide, by decide⟩
  obtain ⟨T13, h13, X13, e13, W13, st13⟩ := stB X0 hx hZ e0 Ar12 (j := (0 : Int32)) hin12 (g := (mkF m 31 #[vr a1, vi 0, vr a2, vi 0, vi 2, vi 0, vi p4] [(.int (p4.toInt8.toInt32)), (.int 0), (.ref a2)])) rfl rfl (hb hby d5_31)
  have K13 := (Keep.refl h0 [a2]).wr W13 (Or.inl (List.mem_of_getElem? (i := 0) rfl))
  have N13 := Fr.snoc X13 N0 g_a2
  have Vw13 : Arv Z h13 a2 k9 .byte (2 : Int32) [(.int (nar .byte (p4.toInt8.toInt32)))] (.int 0) := Arv.set Ar12 q12 S12 M12 Hs12 G12 (fits_nar_byte _) W13 0 rfl (Nat.le_of_ble_eq_true rfl)
  have f15 := (V_6.other W13 ne_a1_a2)
  obtain ⟨cl16, Ar16, q16, S16, M16, Hs16, G16⟩ := id f15
  have hin16 : ¬ ((1 : Int32) < 0 ∨ cl16.slots.size ≤ ((1 : Int32)).toNatClampNeg) := inb_of S16 ⟨by decide, by decide⟩
  have hat16 : cl16.slots[((1 : Int32)).toNatClampNeg]? = some (.int p5) := Has.at Hs16 hin16 rfl
  have V18 : Arv Z h13 a2 k9 .byte (2 : Int32) [(.int (nar .byte (p4.toInt8.toInt32))), (.int 0)] (.int 0) := Vw13.pad (pad_rep [(.int (nar .byte (p4.toInt8.toInt32)))] (.int 0) 1)
  obtain ⟨cl19, Ar19, q19, S19, M19, Hs19, G19⟩ := id V18
  have hin19 : ¬ ((1 : Int32) < 0 ∨ cl19.slots.size ≤ ((1 : Int32)).toNatClampNeg) := inb_of S19 ⟨by decide, by decide⟩
  obtain ⟨T20, h20, X20, e20, W20, st20⟩ := stB X13 hx hZ e13 Ar19 (j := (1 : Int32)) hin19 (g := (mkF m 31 #[vr a1, vi 1, vr a2, vi 1, vi 2, vi 1, vi p5] [(.int (p5.toInt8.toInt32)), (.int 1), (.ref a2)])) rfl rfl (hb hby d5_31)
  have K20 := K13.wr W20 (Or.inl (List.mem_of_getElem? (i := 0) rfl))
  have N20 := Fr.snoc X20 N13 g_a2
  have Vw20 : Arv Z h20 a2 k9 .byte (2 : Int32) [(.int (nar .byte (p4.toInt8.toInt32))), (.int (nar .byte (p5.toInt8.toInt32)))] (.int 0) := Arv.set Ar19 q19 S19 M19 Hs19 G19 (fits_nar_byte _) W20 1 rfl (Nat.le_of_ble_eq_true rfl)
  have f21 := ((E_14.wr W13).wr W20)
  obtain ⟨fs, hr, hrun, hended, hW, hsame⟩ := X20.leave (v := some (.int 2)) (fun h => by rw [Bd.returns] at h; cases h)
  refine ⟨_, _, pre0 _ ?_, hrun, hended, _, _, rfl, ?_, ⟨_, rfl⟩, hW, hsame.mono (by decide) (by decide)⟩
  · show Steps p.tables e below (s₁.setTop (mkF m 0 #[vr a1, vi 0, vr a2, vi 0, vi 2, .unset, .unset] [])) _
    refine XS.iconst X0.here hx rfl (hb hby d5_0) ?_
    refine XS.istore X0.here hx rfl (hb hby d5_1) rfl (l' := #[vr a1, vi 0, vr a2, vi 0, vi 2, vi 0, .unset]) rfl ?_
    refine XS.iload X0.here hx rfl (hb hby d5_3) rfl ?_
    refine XS.iload X0.here hx rfl (hb hby d5_5) rfl ?_
    refine XS.icmpNo X0.here hx rfl (hb hby d5_7) rfl (tlt ((by decide) : (0 : Int32) < (2 : Int32))).2.1 ?_
    refine XS.aloadN X0.here hx rfl (hb hby d5_10) rfl rfl ?_
    refine XS.iloadN X0.here hx rfl (hb hby d5_11) rfl ?_
    refine X0.caload hx (j := (0 : Int32)) (v := (.int p4)) (by rw [e0]; exact Ar7.1) (State.isArrayOf_alike hZ.alike Ar7.2.1) Ar7.2.2 hin7 hat7 (g := (mkF m 12 #[vr a1, vi 0, vr a2, vi 0, vi 2, vi 0, .unset] [(.int 0), (.ref a1)])) rfl rfl (hb hby d5_12) _ ?_
    refine XS.istore X0.here hx rfl (hb hby d5_13) rfl (l' := #[vr a1, vi 0, vr a2, vi 0, vi 2, vi 0, vi p4]) rfl ?_
    refine XS.iload X0.here hx rfl (hb hby d5_15) rfl ?_
    show Steps p.tables e below (s₁.setTop (mkF m 17 #[vr a1, vi 0, vr a2, vi 0, vi 2, vi 0, vi p4] [(.int p4)])) _
    refine XS.sipush X0.here hx rfl (hb hby d5_17) ?_
    refine XS.icmpYes X0.here hx rfl (pc0 := 20) (pc' := 26) rfl (hb hby d5_20) rfl (flt (hc8 : ¬ ((255 : Int32) < p4))).2.2.2 (by decide) (by decide) ?_
    refine XS.aloadN X0.here hx rfl (hb hby d5_26) rfl rfl ?_
    refine XS.iloadN X0.here hx rfl (hb hby d5_27) rfl ?_
    refine XS.iload X0.here hx rfl (hb hby d5_28) rfl ?_
    refine XS.i2b X0.here hx rfl (hb hby d5_30) rfl ?_
    refine st13 _ ?_
    refine XS.iinc X13.here hx rfl (hb hby d5_32) rfl (l' := #[vr a1, vi 1, vr a2, vi 0, vi 2, vi 0, vi p4]) rfl ?_
    refine XS.iinc X13.here hx rfl (hb hby d5_35) rfl (l' := #[vr a1, vi 1, vr a2, vi 1, vi 2, vi 0, vi p4]) rfl ?_
    refine XS.iinc X13.here hx rfl (hb hby d5_38) rfl (l' := #[vr a1, vi 1, vr a2, vi 1, vi 2, vi 1, vi p4]) rfl ?_
    show Steps p.tables e below (T13.setTop (mkF m 41 #[vr a1, vi 1, vr a2, vi 1, vi 2, vi 1, vi p4] [])) _
    refine XS.goto X13.here hx rfl (pc0 := 41) (pc' := 3) rfl (hb hby d5_41) (by decide) (by decide) ?_
    refine XS.iload X13.here hx rfl (hb hby d5_3) rfl ?_
    refine XS.iload X13.here hx rfl (hb hby d5_5) rfl ?_
    refine XS.icmpNo X13.here hx rfl (hb hby d5_7) rfl (tlt ((by decide) : (1 : Int32) < (2 : Int32))).2.1 ?_
    refine XS.aloadN X13.here hx rfl (hb hby d5_10) rfl rfl ?_
    refine XS.iloadN X13.here hx rfl (hb hby d5_11) rfl ?_
    refine X13.caload hx (j := (1 : Int32)) (v := (.int p5)) (by rw [e13]; exact Ar16.1) (State.isArrayOf_alike hZ.alike Ar16.2.1) Ar16.2.2 hin16 hat16 (g := (mkF m 12 #[vr a1, vi 1, vr a2, vi 1, vi 2, vi 1, vi p4] [(.int 1), (.ref a1)])) rfl rfl (hb hby d5_12) _ ?_
    refine XS.istore X13.here hx rfl (hb hby d5_13) rfl (l' := #[vr a1, vi 1, vr a2, vi 1, vi 2, vi 1, vi p5]) rfl ?_
    refine XS.iload X13.here hx rfl (hb hby d5_15) rfl ?_
    refine XS.sipush X13.here hx rfl (hb hby d5_17) ?_
    show Steps p.tables e below (T13.setTop (mkF m 20 #[vr a1, vi 1, vr a2, vi 1, vi 2, vi 1, vi p5] [(.int 255), (.int p5)])) _
    refine XS.icmpYes X13.here hx rfl (pc0 := 20) (pc' := 26) rfl (hb hby d5_20) rfl (flt (hc17 : ¬ ((255 : Int32) < p5))).2.2.2 (by decide) (by decide) ?_
    refine XS.aloadN X13.here hx rfl (hb hby d5_26) rfl rfl ?_
    refine XS.iloadN X13.here hx rfl (hb hby d5_27) rfl ?_
    refine XS.iload X13.here hx rfl (hb hby d5_28) rfl ?_
    refine XS.i2b X13.here hx rfl (hb hby d5_30) rfl ?_
    refine st20 _ ?_
    refine XS.iinc X20.here hx rfl (hb hby d5_32) rfl (l' := #[vr a1, vi 2, vr a2, vi 1, vi 2, vi 1, vi p5]) rfl ?_
    refine XS.iinc X20.here hx rfl (hb hby d5_35) rfl (l' := #[vr a1, vi 2, vr a2, vi 2, vi 2, vi 1, vi p5]) rfl ?_
    refine XS.iinc X20.here hx rfl (hb hby d5_38) rfl (l' := #[vr a1, vi 2, vr a2, vi 2, vi 2, vi 2, vi p5]) rfl ?_
    refine XS.goto X20.here hx rfl (pc0 := 41) (pc' := 3) rfl (hb hby d5_41) (by decide) (by decide) ?_
    show Steps p.tables e below (T20.setTop (mkF m 3 #[vr a1, vi 2, vr a2, vi 2, vi 2, vi 2, vi p5] [])) _
    refine XS.iload X20.here hx rfl (hb hby d5_3) rfl ?_
    refine XS.iload X20.here hx rfl (hb hby d5_5) rfl ?_
    refine XS.icmpYes X20.here hx rfl (pc0 := 7) (pc' := 44) rfl (hb hby d5_7) rfl (flt ((by decide) : ¬ ((2 : Int32) < (2 : Int32)))).2.1 (by decide) (by decide) ?_
    refine XS.iload X20.here hx rfl (hb hby d5_44) rfl ?_
    exact retI X20 hx Bd.returns (hb hby d5_46) hr
  · show Qrm5_1 Z a1 a2 k3 p4 p5 k9 h0 n0 _ T20.heap _
    rw [e20]
    exact ⟨rfl, N20, K20, Vw20, f21⟩
def Qrm4_1 (Z : State) (a1 : Addr) (k3 : ClassId) (p4 : Int32) (p5 : Int32) (h0 : Heap) (n0 : Nat) (v : Option Value) (h : Heap) (L : List Loc) : Prop := ∃ b2 : Addr, ∃ k2 : ClassId, v = some (.ref b2) ∧ Fr n0 L ∧ Keep h0 h [] ∧ h0.size ≤ b2 ∧ Exa Z h b2 "[B" ∧ Arv Z h b2 k2 .byte (2 : Int32) [(.int (nar .byte (p4.toInt8.toInt32))), (.int (nar .byte (p5.toInt8.toInt32)))] (.int 0)
set_option maxRecDepth 65536 in
set_option maxHeartbeats 40000000 in
theorem rm4_1 (l : Launch) (Z : State) (a0 : Array Value) (hw : ∀ d ∈ tables_1, d.before a0 Z = true) (ws : List Jvm.Cond) (a1 : Addr) (k3 : ClassId) (p4 : Int32) (p5 : Int32) (h0 : Heap) (n0 : Nat) (O0 : Old Z n0 h0) (V_6 : Arv Z h0 a1 k3 .char (2 : Int32) [(.int p4), (.int p5)] (.int 0)) (hc7 : ¬ ((255 : Int32) < p4)) (hc8 : ¬ ((255 : Int32) < p5)) :
    MF l Z h0 (⟨"java/lang/StringUTF16", "compress", "([CII)[B"⟩ : MethodName) jdk_52_method_16_code 6 (some (.array .byte)) ws (⟨1, 1, 2, 18⟩ : Room) #[(.ref a1), (.int 0), (.int 2)] (Qrm4_1 Z a1 k3 p4 p5 h0 n0) := by
  refine MetFree.of_bodySF (plainFor_of_name pn_41) hisR ?_
  intro p e s m args below meth c s₁ Bd hml0 hP hK
  obtain ⟨rfl, hZ, hh⟩ := hP
  have hx := Bd.exec
  have hby := Bd.bytes
  have hml : c.maxLocals = 6 := hml0
  have hown : s.vm.findClass "java/lang/StringUTF16" = some m.cls := findClass_of_methodNamed Bd.named
  have X0 : Stand p l e (⟨1, 1, 2, 18⟩ : Room) s m #[(.ref a1), (.int 0), (.int 2)] below meth c s₁ [] 0 0 := Stand.of_body Bd
  have e0 : s₁.heap = h0 := by rw [← hh, Bd.state]; rfl
  have N0 := Fr.nil n0
  have pre0 : ∀ t, Steps p.tables e below (s₁.setTop (mkF m 0 #[vr a1, vi 0, vi 2, .unset, .unset, .unset] [])) t → Steps p.tables e below (s₁.setTop (entryFrame m #[(.ref a1), (.int 0), (.int 2)] 6)) t := fun t k => castTop (ef_4_RII m a1 (0 : Int32) (2 : Int32)) k
  obtain ⟨T2, h2, k2, X2, e2, E2, A2, B2, st2⟩ := newPE X0 hx hZ (W hw 19 rfl) e0 (g := (mkF m 1 #[vr a1, vi 0, vi 2, .unset, .unset, .unset] [(.int 2)])) rfl (hb hby d4_1) rfl (by decide) (cap := 2) (by decide) (by decide) (by decide) (by decide) (ad := "[B") (by decide)
  obtain ⟨b2, g2⟩ : ∃ z, z = h0.size := ⟨_, rfl⟩
  rw [← g2] at A2 B2 st2
  have g_b2 := own_born O0 (own_eqle g2)
  have sz_b2 := Nat.le_trans (Keep.refl h0 []).1 (own_eqle g2)
  have K2 := (Keep.refl h0 []).ext E2
  have O2 := O0.ext E2
  have V2 : Arv Z h2 b2 k2 .byte (2 : Int32) [] (.int 0) := Arv.new A2 (by decide)
  have f9 := (V_6.ext E2)
  obtain ⟨_, T10, L10, X10, hQ10, st10⟩ := cS X2 hx hZ hown (W hw 20 rfl) (W hw 21 rfl) (W hw 17 rfl) (W hw 22 rfl) (by decide) (rm5_1 l Z a0 hw [] a1 b2 k3 p4 p5 k2 h2 n0 O2 f9 hc7 V2 g_b2 B2 (own_ltn V_6.lt sz_b2) hc8) e2 #[vr a1, vi 0, vi 2, vr b2, .unset, .unset] [] (by rw [hml]; rfl) (hb hby d4_9) pd_42 rfl (W := 0) (Nat.le_of_eq rfl) (by decide) (by decide) (by decide) (by decide)
  obtain ⟨rfl, Nq10, K10, P10_0, P10_1⟩ := hQ10
  have N10 := Fr.app N0 Nq10
  have KK10 := Keep.trans (h := h2) K2 K10 (allS (Or.inr sz_b2) all0)
  obtain ⟨fs, hr, hrun, hended, hW, hsame⟩ := X10.leave (v := some (.ref b2)) (fun h => by rw [Bd.returns] at h; cases h)
  refine ⟨_, _, pre0 _ ?_, hrun, hended, _, _, rfl, ?_, ⟨_, rfl⟩, hW, hsame.mono (by decide) (by decide)⟩
  · show Steps p.tables e below (s₁.setTop (mkF m 0 #[vr a1, vi 0, vi 2, .unset, .unset, .unset] [])) _
    refine XS.iloadN X0.here hx rfl (hb hby d4_0) rfl ?_
    refine st2 _ ?_
    refine XS.astoreN X2.here hx rfl (hb hby d4_3) rfl rfl (l' := #[vr a1, vi 0, vi 2, vr b2, .unset, .unset]) rfl ?_
    refine XS.aloadN X2.here hx rfl (hb hby d4_4) rfl rfl ?_
    refine XS.iloadN X2.here hx rfl (hb hby d4_5) rfl ?_
    refine XS.aloadN X2.here hx rfl (hb hby d4_6) rfl rfl ?_
    refine XS.iconst X2.here hx rfl (hb hby d4_7) ?_
    refine XS.iloadN X2.here hx rfl (hb hby d4_8) rfl ?_
    refine st10 _ ?_
    refine XS.istore X10.here hx rfl (hb hby d4_12) rfl (l' := #[vr a1, vi 0, vi 2, vr b2, vi 2, .unset]) rfl ?_
    show Steps p.tables e below (T10.setTop (mkF m 14 #[vr a1, vi 0, vi 2, vr b2, vi 2, .unset] [])) _
    refine XS.iload X10.here hx rfl (hb hby d4_14) rfl ?_
    refine XS.iloadN X10.here hx rfl (hb hby d4_16) rfl ?_
    refine XS.icmpYes X10.here hx rfl (pc0 := 17) (pc' := 57) rfl (hb hby d4_17) rfl (teq ((by decide) : (2 : Int32) = (2 : Int32))).1 (by decide) (by decide) ?_
    refine XS.aloadN X10.here hx rfl (hb hby d4_57) rfl rfl ?_
    jvm_step X10.here [X10.here.top, hx, (hb hby d4_58), X10.method', Bd.returns, Value.isRef, FieldType.isReference]
    first | (intro acts; rw [hr _ acts rfl rfl rfl]) | rw [hr _ _ rfl rfl rfl]
    exact Steps.refl _
  · show Qrm4_1 Z a1 k3 p4 p5 h0 n0 _ T10.heap _
    exact ⟨b2, k2, rfl, N10, KK10, sz_b2, P10_1, P10_0⟩
def Qrm6_1 (Z : State) (a1 : Addr) (k2 : ClassId) (p3 : Int32) (p4 : Int32) (h0 : Heap) (n0 : Nat) (v : Option Value) (h : Heap) (L : List Loc) : Prop := v = some (.int 0) ∧ Fr n0 L ∧ h = h0
set_option maxRecDepth 65536 in
set_option maxHeartbeats 40000000 in
theorem rm6_1 (l : Launch) (Z : State) (a0 : Array Value) (hw : ∀ d ∈ tables_1, d.before a0 Z = true) (ws : List Jvm.Cond) (a1 : Addr) (k2 : ClassId) (p3 : Int32) (p4 : Int32) (h0 : Heap) (n0 : Nat) (O0 : Old Z n0 h0) (V_5 : Arv Z h0 a1 k2 .byte (2 : Int32) [(.int p3), (.int p4)] (.int 0)) :
    MF l Z h0 (⟨"java/lang/StringUTF16", "coderFromArrayLen", "([BI)B"⟩ : MethodName) jdk_52_method_15_code 2 (some .byte) ws (⟨0, 0, 0, 0⟩ : Room) #[(.ref a1), (.int 2)] (Qrm6_1 Z a1 k2 p3 p4 h0 n0) := by
  refine MetFree.of_bodySF (plainFor_of_name pn_41) hisR ?_
  intro p e s m args below meth c s₁ Bd hml0 hP hK
  obtain ⟨rfl, hZ, hh⟩ := hP
  have hx := Bd.exec
  have hby := Bd.bytes
  have X0 : Stand p l e (⟨0, 0, 0, 0⟩ : Room) s m #[(.ref a1), (.int 2)] below meth c s₁ [] 0 0 := Stand.of_body Bd
  have e0 : s₁.heap = h0 := by rw [← hh, Bd.state]; rfl
  have N0 := Fr.nil n0
  have pre0 : ∀ t, Steps p.tables e below (s₁.setTop (mkF m 0 #[vr a1, vi 2] [])) t → Steps p.tables e below (s₁.setTop (entryFrame m #[(.ref a1), (.int 2)] 2)) t := fun t k => castTop (ef_6_RI m a1 (2 : Int32)) k
  obtain ⟨cl6, Ar6, q6, S6, M6, Hs6, G6⟩ := id V_5
  obtain ⟨fs, hr, hrun, hended, hW, hsame⟩ := X0.leave (v := some (.int 0)) (fun h => by rw [Bd.returns] at h; cases h)
  refine ⟨_, _, pre0 _ ?_, hrun, hended, _, _, rfl, ?_, ⟨_, rfl⟩, hW, hsame.mono (by decide) (by decide)⟩
  · show Steps p.tables e below (s₁.setTop (mkF m 0 #[vr a1, vi 2] [])) _
    refine XS.iloadN X0.here hx rfl (hb hby d6_0) rfl ?_
    refine XS.aloadN X0.here hx rfl (hb hby d6_1) rfl rfl ?_
    refine X0.arraylength hx (by rw [e0]; exact Ar6.1) (State.isArrayOf_alike hZ.alike Ar6.2.1) (g := (mkF m 2 #[vr a1, vi 2] [(.ref a1), (.int 2)])) rfl rfl (hb hby d6_2) _ ?_
    rw [len_of S6 M6]
    refine XS.isub X0.here hx rfl (hb hby d6_3) rfl ?_
    show Steps p.tables e below (s₁.setTop (mkF m 4 #[vr a1, vi 2] [(.int ((2 : Int32) - (2 : Int32)))])) _
    rw [show ((2 : Int32) - (2 : Int32)) = (0 : Int32) from by decide]
    refine XS.bipush X0.here hx rfl (hb hby d6_4) ?_
    refine XS.iushr X0.here hx rfl (hb hby d6_6) rfl ?_
    show Steps p.tables e below (s₁.setTop (mkF m 7 #[vr a1, vi 2] [(.int (((0 : Int32).toUInt32 >>> ((31 : Int32) &&& 31).toUInt32).toInt32))])) _
    rw [show (((0 : Int32).toUInt32 >>> ((31 : Int32) &&& 31).toUInt32).toInt32) = (0 : Int32) from by decide]
    refine XS.i2b X0.here hx rfl (hb hby d6_7) rfl ?_
    show Steps p.tables e below (s₁.setTop (mkF m 8 #[vr a1, vi 2] [(.int ((0 : Int32).toInt8.toInt32))])) _
    rw [show ((0 : Int32).toInt8.toInt32) = (0 : Int32) from by decide]
    exact retN X0 hx (t := .byte) Bd.returns (by simp) (hb hby d6_8) hr
  · show Qrm6_1 Z a1 k2 p3 p4 h0 n0 _ s₁.heap _
    rw [e0]
    exact ⟨rfl, N0, rfl⟩
def Qrm2_2 (Z : State) (a1 : Addr) (a2 : Addr) (p4 : Int32) (k8 : ClassId) (p9 : Int32) (p10 : Int32) (h0 : Heap) (n0 : Nat) (v : Option Value) (h : Heap) (L : List Loc) : Prop := ∃ b15 : Addr, ∃ k16 : ClassId, v = none ∧ Fr n0 L ∧ Keep h0 h [a1] ∧ h0.size ≤ b15 ∧ Exa Z h a1 "java/lang/String" ∧ Fld Z h a1 "java/lang/String" "coder" "B" (.int 0) ∧ Fld Z h a1 "java/lang/String" "value" "[B" (.ref b15) ∧ Exa Z h b15 "[B" ∧ Arv Z h b15 k16 .byte (2 : Int32) [(.int (nar .byte (p9.toInt8.toInt32))), (.int (nar .byte (p10.toInt8.toInt32)))] (.int 0)
set_option maxRecDepth 65536 in
set_option maxHeartbeats 40000000 in
theorem rm2_2 (l : Launch) (Z : State) (a0 : Array Value) (hw : ∀ d ∈ tables_1, d.before a0 Z = true) (ws : List Jvm.Cond) (a1 : Addr) (a2 : Addr) (p4 : Int32) (k8 : ClassId) (p9 : Int32) (p10 : Int32) (h0 : Heap) (n0 : Nat) (O0 : Old Z n0 h0) (S_5 : Sta Z Z.heap "java/lang/String" "COMPACT_STRINGS" "Z" (.int p4)) (hc7 : ¬ (p4 = (0 : Int32))) (V_11 : Arv Z h0 a2 k8 .char (2 : Int32) [(.int p9), (.int p10)] (.int 0)) (hc12 : ¬ ((255 : Int32) < p9)) (hc13 : ¬ ((255 : Int32) < p10)) (E_19 : Exa Z h0 a1 "java/lang/String") (F_20 : Fld Z h0 a1 "java/lang/String" "coder" "B" (.int 0)) (g_a1 : n0 ≤ a1) (F_24 : Fld Z h0 a1 "java/lang/String" "value" "[B" .null) :
    MF l Z h0 (⟨"java/lang/String", "<init>", "([CIILjava/lang/Void;)V"⟩ : MethodName) jdk_42_method_149_code 6 none ws (⟨2, 1, 2, 35⟩ : Room) #[(.ref a1), (.ref a2), (.int 0), (.int 2), .null] (Qrm2_2 Z a1 a2 p4 k8 p9 p10 h0 n0) := by
  refine MetFree.of_bodySF (plainFor_of_name pn_0) hisR ?_
  intro p e s m args below meth c s₁ Bd hml0 hP hK
  obtain ⟨rfl, hZ, hh⟩ := hP
  have hx := Bd.exec
  have hby := Bd.bytes
  have hml : c.maxLocals = 6 := hml0
  have hown : s.vm.findClass "java/lang/String" = some m.cls := findClass_of_methodNamed Bd.named
  have hnm := (name_of_methodNamed Bd.named Bd.method).1
  have X0 : Stand p l e (⟨2, 1, 2, 35⟩ : Room) s m #[(.ref a1), (.ref a2), (.int 0), (.int 2), .null] below meth c s₁ [] 0 0 := Stand.of_body Bd
  have e0 : s₁.heap = h0 := by rw [← hh, Bd.state]; rfl
  have N0 := Fr.nil n0
  have pre0 : ∀ t, Steps p.tables e below (s₁.setTop (mkF m 0 #[vr a1, vr a2, vi 0, vi 2, .val .null, .unset] [])) t → Steps p.tables e below (s₁.setTop (entryFrame m #[(.ref a1), (.ref a2), (.int 0), (.int 2), .null] 6)) t := fun t k => castTop (ef_2_RRIIn m a1 a2 (0 : Int32) (2 : Int32)) k
  obtain ⟨T3, X3, e3, st3⟩ := initO X0 hx hZ hown (W hw 11 rfl) (W hw 12 rfl) (W hw 13 rfl) e0 (g := (mkF m 1 #[vr a1, vr a2, vi 0, vi 2, .val .null, .unset] [(.ref a1)])) rfl (by rw [hml]; rfl) rfl (hb hby d2_1) (by decide) (W := 0) (by show 2 * 0 + _ ≤ _; exact Nat.le_of_eq rfl) (by decide)
  obtain ⟨T6, X6, e6, st6⟩ := getS2 X3 hx hZ hown (host := "") (Or.inl (W hw 14 rfl)) Via.refl e3 (S_5.ext O0.2) (g := (mkF m 27 #[vr a1, vr a2, vi 0, vi 2, .val .null, .unset] [])) rfl (hb hby d2_27)
  obtain ⟨_, T14, L14, X14, hQ14, st14⟩ := cS X6 hx hZ hown (W hw 15 rfl) (W hw 16 rfl) (W hw 17 rfl) (W hw 18 rfl) (by decide) (rm4_1 l Z a0 hw [] a2 k8 p9 p10 h0 n0 O0 V_11 hc12 hc13) e6 #[vr a1, vr a2, vi 0, vi 2, .val .null, .unset] [] (by rw [hml]; rfl) (hb hby d2_36) pd_43 rfl (W := 0) (Nat.le_of_eq rfl) (by decide) (by decide) (by decide) (by decide)
  obtain ⟨b15, k16, rfl, Nq14, K14, sq14_b15, P14_0, P14_1⟩ := hQ14
  have N14 := Fr.app N0 Nq14
  have sz_b15 := Nat.le_trans (Keep.refl h0 [a1]).1 sq14_b15
  have KK14 := Keep.trans (h := h0) (Keep.refl h0 [a1]) K14 all0
  have O14 := O0.keep K14 all0
  obtain ⟨_, T18, L18, X18, hQ18, st18⟩ := cS X14 hx hZ hown (W hw 23 rfl) (W hw 24 rfl) (W hw 17 rfl) (W hw 25 rfl) (by decide) (rm6_1 l Z a0 hw [] b15 k16 (nar .byte (p9.toInt8.toInt32)) (nar .byte (p10.toInt8.toInt32)) T14.heap n0 O14 P14_1) rfl #[vr a1, vr a2, vi 0, vi 2, .val .null, vr b15] [(.ref a1)] (by rw [hml]; rfl) (hb hby d2_45) pd_44 rfl (W := 1) (Nat.le_of_eq rfl) (by decide) (by decide) (by decide) (by decide)
  obtain ⟨rfl, Nq18, e18⟩ := hQ18
  have N18 := Fr.app N14 Nq18
  have f21 := (F_20.keep K14 nin0)
  have f22 := (E_19.keep K14)
  obtain ⟨T23, h23, X23, e23, W23, st23⟩ := putFN X18 hx hZ hown (W hw 26 rfl) Via.refl e18 f21 f22 (Or.inr ⟨(W hw 27 rfl), rfl, hnm⟩) (W hw 1 rfl) (ty := .byte) (v' := (.int 0)) (by decide) rfl rfl (g := (mkF m 48 #[vr a1, vr a2, vi 0, vi 2, .val .null, vr b15] [(.int 0), (.ref a1)])) rfl rfl (hb hby d2_48)
  have K23 := KK14.wr W23 (Or.inl (List.mem_of_getElem? (i := 0) rfl))
  have N23 := Fr.snoc X23 N18 g_a1
  have Fw23 := f21.same W23
  have f25 := ((F_24.keep K14 nin0).other W23 (Or.inr (slot_ne (Or.inr (W hw 29 rfl)) (Or.inr (W hw 27 rfl)) (by decide) (t := (.array .byte)) (t' := .byte) (by decide) (by decide))))
  have f26 := (f22.wr W23)
  obtain ⟨T27, h27, X27, e27, W27, st27⟩ := putF X23 hx hZ hown (host := "") (Or.inl (W hw 28 rfl)) Via.refl e23 f25 f26 (Or.inr ⟨(W hw 29 rfl), rfl, hnm⟩) (W hw 1 rfl) (ty := (.array .byte)) (by decide) rfl rfl (g := (mkF m 54 #[vr a1, vr a2, vi 0, vi 2, .val .null, vr b15] [(.ref b15), (.ref a1)])) rfl rfl (hb hby d2_54)
  have K27 := K23.wr W27 (Or.inl (List.mem_of_getElem? (i := 0) rfl))
  have N27 := Fr.snoc X27 N23 g_a1
  have Fw27 := f25.same W27
  have f28 := (f26.wr W27)
  have f29 := (Fw23.other W27 (Or.inr (slot_ne (Or.inr (W hw 27 rfl)) (Or.inr (W hw 29 rfl)) (by decide) (t := .byte) (t' := (.array .byte)) (by decide) (by decide))))
  have f30 := ((P14_0.wr W23).wr W27)
  have f31 := ((P14_1.other W23 (Ne.symm (own_ltn E_19.lt sz_b15))).other W27 (Ne.symm (own_ltn E_19.lt sz_b15)))
  obtain ⟨fs, hr, hrun, hended, hW, hsame⟩ := X27.leave (v := none) (fun _ => rfl)
  refine ⟨_, _, pre0 _ ?_, hrun, hended, _, _, rfl, ?_, ⟨_, rfl⟩, hW, hsame.mono (by decide) (by decide)⟩
  · show Steps p.tables e below (s₁.setTop (mkF m 0 #[vr a1, vr a2, vi 0, vi 2, .val .null, .unset] [])) _
    refine XS.aloadN X0.here hx rfl (hb hby d2_0) rfl rfl ?_
    refine st3 _ ?_
    refine XS.iloadN X3.here hx rfl (hb hby d2_4) rfl ?_
    refine XS.ifYes X3.here hx rfl (pc0 := 5) (pc' := 27) rfl (hb hby d2_5) rfl ((if0 _ _).trans (feq ((by decide) : ¬ ((2 : Int32) = (0 : Int32)))).2) (by decide) (by decide) ?_
    refine st6 _ ?_
    refine XS.ifNo X6.here hx rfl (hb hby d2_30) rfl ((if0 _ _).trans (feq (hc7 : ¬ (p4 = (0 : Int32)))).1) ?_
    refine XS.aloadN X6.here hx rfl (hb hby d2_33) rfl rfl ?_
    refine XS.iloadN X6.here hx rfl (hb hby d2_34) rfl ?_
    refine XS.iloadN X6.here hx rfl (hb hby d2_35) rfl ?_
    refine st14 _ ?_
    show Steps p.tables e below (T14.setTop (mkF m 39 #[vr a1, vr a2, vi 0, vi 2, .val .null, .unset] [(.ref b15)])) _
    refine XS.astore X14.here hx rfl (hb hby d2_39) rfl rfl (l' := #[vr a1, vr a2, vi 0, vi 2, .val .null, vr b15]) rfl ?_
    refine XS.aloadN X14.here hx rfl (hb hby d2_41) rfl rfl ?_
    refine XS.aload X14.here hx rfl (hb hby d2_42) rfl rfl ?_
    refine XS.iloadN X14.here hx rfl (hb hby d2_44) rfl ?_
    refine st18 _ ?_
    refine st23 _ ?_
    refine XS.aloadN X23.here hx rfl (hb hby d2_51) rfl rfl ?_
    refine XS.aload X23.here hx rfl (hb hby d2_52) rfl rfl ?_
    refine st27 _ ?_
    exact X27.returnOut hx Bd.returns (hb hby d2_57) hr
  · show Qrm2_2 Z a1 a2 p4 k8 p9 p10 h0 n0 _ T27.heap _
    rw [e27]
    exact ⟨b15, k16, rfl, N27, K27, sz_b15, f28, f29, Fw27, f30, f31⟩
def Qrm1_2 (Z : State) (a1 : Addr) (a2 : Addr) (k3 : ClassId) (p4 : Int32) (p5 : Int32) (p8 : Int32) (h0 : Heap) (n0 : Nat) (v : Option Value) (h : Heap) (L : List Loc) : Prop := ∃ b17 : Addr, ∃ k18 : ClassId, v = none ∧ Fr n0 L ∧ Keep h0 h [a1] ∧ h0.size ≤ b17 ∧ Exa Z h a1 "java/lang/String" ∧ Fld Z h a1 "java/lang/String" "coder" "B" (.int 0) ∧ Fld Z h a1 "java/lang/String" "value" "[B" (.ref b17) ∧ Exa Z h b17 "[B" ∧ Arv Z h b17 k18 .byte (2 : Int32) [(.int (nar .byte (p4.toInt8.toInt32))), (.int (nar .byte (p5.toInt8.toInt32)))] (.int 0)
set_option maxRecDepth 65536 in
set_option maxHeartbeats 40000000 in
theorem rm1_2 (l : Launch) (Z : State) (a0 : Array Value) (hw : ∀ d ∈ tables_1, d.before a0 Z = true) (ws : List Jvm.Cond) (a1 : Addr) (a2 : Addr) (k3 : ClassId) (p4 : Int32) (p5 : Int32) (p8 : Int32) (h0 : Heap) (n0 : Nat) (O0 : Old Z n0 h0) (V_6 : Arv Z h0 a2 k3 .char (2 : Int32) [(.int p4), (.int p5)] (.int 0)) (S_9 : Sta Z Z.heap "java/lang/String" "COMPACT_STRINGS" "Z" (.int p8)) (hc10 : ¬ (p8 = (0 : Int32))) (hc11 : ¬ ((255 : Int32) < p4)) (hc12 : ¬ ((255 : Int32) < p5)) (E_13 : Exa Z h0 a1 "java/lang/String") (F_14 : Fld Z h0 a1 "java/lang/String" "coder" "B" (.int 0)) (g_a1 : n0 ≤ a1) (F_15 : Fld Z h0 a1 "java/lang/String" "value" "[B" .null) :
    MF l Z h0 (⟨"java/lang/String", "<init>", "([C)V"⟩ : MethodName) jdk_42_method_3_code 2 none ws (⟨3, 1, 2, 52⟩ : Room) #[(.ref a1), (.ref a2)] (Qrm1_2 Z a1 a2 k3 p4 p5 p8 h0 n0) := by
  refine MetFree.of_bodySF (plainFor_of_name pn_0) hisR ?_
  intro p e s m args below meth c s₁ Bd hml0 hP hK
  obtain ⟨rfl, hZ, hh⟩ := hP
  have hx := Bd.exec
  have hby := Bd.bytes
  have hml : c.maxLocals = 2 := hml0
  have hown : s.vm.findClass "java/lang/String" = some m.cls := findClass_of_methodNamed Bd.named
  have X0 : Stand p l e (⟨3, 1, 2, 52⟩ : Room) s m #[(.ref a1), (.ref a2)] below meth c s₁ [] 0 0 := Stand.of_body Bd
  have e0 : s₁.heap = h0 := by rw [← hh, Bd.state]; rfl
  have N0 := Fr.nil n0
  have pre0 : ∀ t, Steps p.tables e below (s₁.setTop (mkF m 0 #[vr a1, vr a2] [])) t → Steps p.tables e below (s₁.setTop (entryFrame m #[(.ref a1), (.ref a2)] 2)) t := fun t k => castTop (ef_1_RR m a1 a2) k
  obtain ⟨cl7, Ar7, q7, S7, M7, Hs7, G7⟩ := id V_6
  obtain ⟨_, T16, L16, X16, hQ16, st16⟩ := cI X0 hx hZ hown (W hw 7 rfl) (W hw 8 rfl) (W hw 10 rfl) (W hw 2 rfl) rfl (by decide) (rm2_2 l Z a0 hw [] a1 a2 p8 k3 p4 p5 h0 n0 O0 S_9 hc10 V_6 hc11 hc12 E_13 F_14 g_a1 F_15) e0 #[vr a1, vr a2] [] (by rw [hml]; rfl) (hb hby d1_6) pd_1 rfl (W := 0) (Nat.le_of_eq rfl) (by decide) (by decide) (by decide) (by decide)
  obtain ⟨b17, k18, rfl, Nq16, K16, sq16_b17, P16_0, P16_1, P16_2, P16_3, P16_4⟩ := hQ16
  have N16 := Fr.app N0 Nq16
  have sz_b17 := Nat.le_trans (Keep.refl h0 [a1]).1 sq16_b17
  have KK16 := Keep.trans (h := h0) (Keep.refl h0 [a1]) K16 (allS (Or.inl (List.mem_of_getElem? (i := 0) rfl)) all0)
  obtain ⟨fs, hr, hrun, hended, hW, hsame⟩ := X16.leave (v := none) (fun _ => rfl)
  refine ⟨_, _, pre0 _ ?_, hrun, hended, _, _, rfl, ?_, ⟨_, rfl⟩, hW, hsame.mono (by decide) (by decide)⟩
  · show Steps p.tables e below (s₁.setTop (mkF m 0 #[vr a1, vr a2] [])) _
    refine XS.aloadN X0.here hx rfl (hb hby d1_0) rfl rfl ?_
    refine XS.aloadN X0.here hx rfl (hb hby d1_1) rfl rfl ?_
    refine XS.iconst X0.here hx rfl (hb hby d1_2) ?_
    refine XS.aloadN X0.here hx rfl (hb hby d1_3) rfl rfl ?_
    refine X0.arraylength hx (by rw [e0]; exact Ar7.1) (State.isArrayOf_alike hZ.alike Ar7.2.1) (g := (mkF m 4 #[vr a1, vr a2] [(.ref a2), (.int 0), (.ref a2), (.ref a1)])) rfl rfl (hb hby d1_4) _ ?_
    rw [len_of S7 M7]
    refine XS.aconstNull X0.here hx rfl (hb hby d1_5) ?_
    refine st16 _ ?_
    exact X16.returnOut hx Bd.returns (hb hby d1_9) hr
  · show Qrm1_2 Z a1 a2 k3 p4 p5 p8 h0 n0 _ T16.heap _
    exact ⟨b17, k18, rfl, N16, KK16, sz_b17, P16_0, P16_1, P16_2, P16_3, P16_4⟩
def Qrm5_2 (Z : State) (a1 : Addr) (a2 : Addr) (k3 : ClassId) (p4 : Int32) (p5 : Int32) (p6 : Int32) (k10 : ClassId) (h0 : Heap) (n0 : Nat) (v : Option Value) (h : Heap) (L : List Loc) : Prop := v = some (.int 3) ∧ Fr n0 L ∧ Keep h0 h [a2] ∧ Arv Z h a2 k10 .byte (3 : Int32) [(.int (nar .byte (p4.toInt8.toInt32))), (.int (nar .byte (p5.toInt8.toInt32))), (.int (nar .byte (p6.toInt8.toInt32)))] (.int 0) ∧ Exa Z h a2 "[B"
set_option maxRecDepth 65536 in
set_option maxHeartbeats 40000000 in
theorem rm5_2 (l : Launch) (Z : State) (a0 : Array Value) (hw : ∀ d ∈ tables_1, d.before a0 Z = true) (ws : List Jvm.Cond) (a1 : Addr) (a2 : Addr) (k3 : ClassId) (p4 : Int32) (p5 : Int32) (p6 : Int32) (k10 : ClassId) (h0 : Heap) (n0 : Nat) (O0 : Old Z n0 h0) (V_7 : Arv Z h0 a1 k3 .char (3 : Int32) [(.int p4), (.int p5), (.int p6)] (.int 0)) (hc9 : ¬ ((255 : Int32) < p4)) (V_11 : Arv Z h0 a2 k10 .byte (3 : Int32) [] (.int 0)) (g_a2 : n0 ≤ a2) (E_15 : Exa Z h0 a2 "[B") (ne_a1_a2 : a1 ≠ a2) (hc18 : ¬ ((255 : Int32) < p5)) (hc24 : ¬ ((255 : Int32) < p6)) :
    MF l Z h0 (⟨"java/lang/StringUTF16", "compress", "([CI[BII)I"⟩ : MethodName) jdk_52_method_21_code 7 (some .int) ws (⟨0, 0, 0, 0⟩ : Room) #[(.ref a1), (.int 0), (.ref a2), (.int 0), (.int 3)] (Qrm5_2 Z a1 a2 k3 p4 p5 p6 k10 h0 n0) := by
  refine MetFree.of_bodySF (plainFor_of_name pn_41) hisR ?_
  intro p e s m args below meth c s₁ Bd hml0 hP hK
  obtain ⟨rfl, hZ, hh⟩ := hP
  have hx := Bd.exec
  have hby := Bd.bytes
  have X0 : Stand p l e (⟨0, 0, 0, 0⟩ : Room) s m #[(.ref a1), (.int 0), (.ref a2), (.int 0), (.int 3)] below meth c s₁ [] 0 0 := Stand.of_body Bd
  have e0 : s₁.heap = h0 := by rw [← hh, Bd.state]; rfl
  have N0 := Fr.nil n0
  have pre0 : ∀ t, Steps p.tables e below (s₁.setTop (mkF m 0 #[vr a1, vi 0, vr a2, vi 0, vi 3, .unset, .unset] [])) t → Steps p.tables e below (s₁.setTop (entryFrame m #[(.ref a1), (.int 0), (.ref a2), (.int 0), (.int 3)] 7)) t := fun t k => castTop (ef_5_RIRII m a1 (0 : Int32) a2 (0 : Int32) (3 : Int32)) k
  obtain ⟨cl8, Ar8, q8, S8, M8, Hs8, G8⟩ := id V_7
  have hin8 : ¬ ((0 : Int32) < 0 ∨ cl8.slots.size ≤ ((0 : Int32)).toNatClampNeg) := inb_of S8 ⟨by decide, by decide⟩
  have hat8 : cl8.slots[((0 : Int32)).toNatClampNeg]? = some (.int p4) := Has.at Hs8 hin8 rfl
  have V12 : Arv Z h0 a2 k10 .byte (3 : Int32) [(.int 0)] (.int 0) := V_11.pad (pad_rep [] (.int 0) 1)
  obtain ⟨cl13, Ar13, q13, S13, M13, Hs13, G13⟩ := id V12
  have hin13 : ¬ ((0 : Int32) < 0 ∨ cl13.slots.size ≤ ((0 : Int32)).toNatClampNeg) := inb_of S13 ⟨by decide, by decide⟩
  obtain ⟨T14, h14, X14, e14, W14, st14⟩ := stB X0 hx hZ e0 Ar13 (j := (0 : Int32)) hin13 (g := (mkF m 31 #[vr a1, vi 0, vr a2, vi 0, vi 3, vi 0, vi p4] [(.int (p4.toInt8.toInt32)), (.int 0), (.ref a2)])) rfl rfl (hb hby d5_31)
  have K14 := (Keep.refl h0 [a2]).wr W14 (Or.inl (List.mem_of_getElem? (i := 0) rfl))
  have N14 := Fr.snoc X14 N0 g_a2
  have Vw14 : Arv Z h14 a2 k10 .byte (3 : Int32) [(.int (nar .byte (p4.toInt8.toInt32)))] (.int 0) := Arv.set Ar13 q13 S13 M13 Hs13 G13 (fits_nar_byte _) W14 0 rfl (Nat.le_of_ble_eq_true rfl)
  have f16 := (V_7.other W14 ne_a1_a2)
  obtain ⟨cl17, Ar17, q17, S17, M17, Hs17, G17⟩ := id f16
  have hin17 : ¬ ((1 : Int32) < 0 ∨ cl17.slots.size ≤ ((1 : Int32)).toNatClampNeg) := inb_of S17 ⟨by decide, by decide⟩
  have hat17 : cl17.slots[((1 : Int32)).toNatClampNeg]? = some (.int p5) := Has.at Hs17 hin17 rfl
  have V19 : Arv Z h14 a2 k10 .byte (3 : Int32) [(.int (nar .byte (p4.toInt8.toInt32))), (.int 0)] (.int 0) := Vw14.pad (pad_rep [(.int (nar .byte (p4.toInt8.toInt32)))] (.int 0) 1)
  obtain ⟨cl20, Ar20, q20, S20, M20, Hs20, G20⟩ := id V19
  have hin20 : ¬ ((1 : Int32) < 0 ∨ cl20.slots.size ≤ ((1 : Int32)).toNatClampNeg) := inb_of S20 ⟨by decide, by decide⟩
  obtain ⟨T21, h21, X21, e21, W21, st21⟩ := stB X14 hx hZ e14 Ar20 (j := (1 : Int32)) hin20 (g := (mkF m 31 #[vr a1, vi 1, vr a2, vi 1, vi 3, vi 1, vi p5] [(.int (p5.toInt8.toInt32)), (.int 1), (.ref a2)])) rfl rfl (hb hby d5_31)
  have K21 := K14.wr W21 (Or.inl (List.mem_of_getElem? (i := 0) rfl))
  have N21 := Fr.snoc X21 N14 g_a2
  have Vw21 : Arv Z h21 a2 k10 .byte (3 : Int32) [(.int (nar .byte (p4.toInt8.toInt32))), (.int (nar .byte (p5.toInt8.toInt32)))] (.int 0) := Arv.set Ar20 q20 S20 M20 Hs20 G20 (fits_nar_byte _) W21 1 rfl (Nat.le_of_ble_eq_true rfl)
  have f22 := (f16.other W21 ne_a1_a2)
  obtain ⟨cl23, Ar23, q23, S23, M23, Hs23, G23⟩ := id f22
  have hin23 : ¬ ((2 : Int32) < 0 ∨ cl23.slots.size ≤ ((2 : Int32)).toNatClampNeg) := inb_of S23 ⟨by decide, by decide⟩
  have hat23 : cl23.slots[((2 : Int32)).toNatClampNeg]? = some (.int p6) := Has.at Hs23 hin23 rfl
  have V25 : Arv Z h21 a2 k10 .byte (3 : Int32) [(.int (nar .byte (p4.toInt8.toInt32))), (.int (nar .byte (p5.toInt8.toInt32))), (.int 0)] (.int 0) := Vw21.pad (pad_rep [(.int (nar .byte (p4.toInt8.toInt32))), (.int (nar .byte (p5.toInt8.toInt32)))] (.int 0) 1)
  obtain ⟨cl26, Ar26, q26, S26, M26, Hs26, G26⟩ := id V25
  have hin26 : ¬ ((2 : Int32) < 0 ∨ cl26.slots.size ≤ ((2 : Int32)).toNatClampNeg) := inb_of S26 ⟨by decide, by decide⟩
  obtain ⟨T27, h27, X27, e27, W27, st27⟩ := stB X21 hx hZ e21 Ar26 (j := (2 : Int32)) hin26 (g := (mkF m 31 #[vr a1, vi 2, vr a2, vi 2, vi 3, vi 2, vi p6] [(.int (p6.toInt8.toInt32)), (.int 2), (.ref a2)])) rfl rfl (hb hby d5_31)
  have K27 := K21.wr W27 (Or.inl (List.mem_of_getElem? (i := 0) rfl))
  have N27 := Fr.snoc X27 N21 g_a2
  have Vw27 : Arv Z h27 a2 k10 .byte (3 : Int32) [(.int (nar .byte (p4.toInt8.toInt32))), (.int (nar .byte (p5.toInt8.toInt32))), (.int (nar .byte (p6.toInt8.toInt32)))] (.int 0) := Arv.set Ar26 q26 S26 M26 Hs26 G26 (fits_nar_byte _) W27 2 rfl (Nat.le_of_ble_eq_true rfl)
  have f28 := (((E_15.wr W14).wr W21).wr W27)
  obtain ⟨fs, hr, hrun, hended, hW, hsame⟩ := X27.leave (v := some (.int 3)) (fun h => by rw [Bd.returns] at h; cases h)
  refine ⟨_, _, pre0 _ ?_, hrun, hended, _, _, rfl, ?_, ⟨_, rfl⟩, hW, hsame.mono (by decide) (by decide)⟩
  · show Steps p.tables e below (s₁.setTop (mkF m 0 #[vr a1, vi 0, vr a2, vi 0, vi 3, .unset, .unset] [])) _
    refine XS.iconst X0.here hx rfl (hb hby d5_0) ?_
    refine XS.istore X0.here hx rfl (hb hby d5_1) rfl (l' := #[vr a1, vi 0, vr a2, vi 0, vi 3, vi 0, .unset]) rfl ?_
    refine XS.iload X0.here hx rfl (hb hby d5_3) rfl ?_
    refine XS.iload X0.here hx rfl (hb hby d5_5) rfl ?_
    refine XS.icmpNo X0.here hx rfl (hb hby d5_7) rfl (tlt ((by decide) : (0 : Int32) < (3 : Int32))).2.1 ?_
    refine XS.aloadN X0.here hx rfl (hb hby d5_10) rfl rfl ?_
    refine XS.iloadN X0.here hx rfl (hb hby d5_11) rfl ?_
    refine X0.caload hx (j := (0 : Int32)) (v := (.int p4)) (by rw [e0]; exact Ar8.1) (State.isArrayOf_alike hZ.alike Ar8.2.1) Ar8.2.2 hin8 hat8 (g := (mkF m 12 #[vr a1, vi 0, vr a2, vi 0, vi 3, vi 0, .unset] [(.int 0), (.ref a1)])) rfl rfl (hb hby d5_12) _ ?_
    refine XS.istore X0.here hx rfl (hb hby d5_13) rfl (l' := #[vr a1, vi 0, vr a2, vi 0, vi 3, vi 0, vi p4]) rfl ?_
    refine XS.iload X0.here hx rfl (hb hby d5_15) rfl ?_
    show Steps p.tables e below (s₁.setTop (mkF m 17 #[vr a1, vi 0, vr a2, vi 0, vi 3, vi 0, vi p4] [(.int p4)])) _
    refine XS.sipush X0.here hx rfl (hb hby d5_17) ?_
    refine XS.icmpYes X0.here hx rfl (pc0 := 20) (pc' := 26) rfl (hb hby d5_20) rfl (flt (hc9 : ¬ ((255 : Int32) < p4))).2.2.2 (by decide) (by decide) ?_
    refine XS.aloadN X0.here hx rfl (hb hby d5_26) rfl rfl ?_
    refine XS.iloadN X0.here hx rfl (hb hby d5_27) rfl ?_
    refine XS.iload X0.here hx rfl (hb hby d5_28) rfl ?_
    refine XS.i2b X0.here hx rfl (hb hby d5_30) rfl ?_
    refine st14 _ ?_
    refine XS.iinc X14.here hx rfl (hb hby d5_32) rfl (l' := #[vr a1, vi 1, vr a2, vi 0, vi 3, vi 0, vi p4]) rfl ?_
    refine XS.iinc X14.here hx rfl (hb hby d5_35) rfl (l' := #[vr a1, vi 1, vr a2, vi 1, vi 3, vi 0, vi p4]) rfl ?_
    refine XS.iinc X14.here hx rfl (hb hby d5_38) rfl (l' := #[vr a1, vi 1, vr a2, vi 1, vi 3, vi 1, vi p4]) rfl ?_
    show Steps p.tables e below (T14.setTop (mkF m 41 #[vr a1, vi 1, vr a2, vi 1, vi 3, vi 1, vi p4] [])) _
    refine XS.goto X14.here hx rfl (pc0 := 41) (pc' := 3) rfl (hb hby d5_41) (by decide) (by decide) ?_
    refine XS.iload X14.here hx rfl (hb hby d5_3) rfl ?_
    refine XS.iload X14.here hx rfl (hb hby d5_5) rfl ?_
    refine XS.icmpNo X14.here hx rfl (hb hby d5_7) rfl (tlt ((by decide) : (1 : Int32) < (3 : Int32))).2.1 ?_
    refine XS.aloadN X14.here hx rfl (hb hby d5_10) rfl rfl ?_
    refine XS.iloadN X14.here hx rfl (hb hby d5_11) rfl ?_
    refine X14.caload hx (j := (1 : Int32)) (v := (.int p5)) (by rw [e14]; exact Ar17.1) (State.isArrayOf_alike hZ.alike Ar17.2.1) Ar17.2.2 hin17 hat17 (g := (mkF m 12 #[vr a1, vi 1, vr a2, vi 1, vi 3, vi 1, vi p4] [(.int 1), (.ref a1)])) rfl rfl (hb hby d5_12) _ ?_
    refine XS.istore X14.here hx rfl (hb hby d5_13) rfl (l' := #[vr a1, vi 1, vr a2, vi 1, vi 3, vi 1, vi p5]) rfl ?_
    refine XS.iload X14.here hx rfl (hb hby d5_15) rfl ?_
    refine XS.sipush X14.here hx rfl (hb hby d5_17) ?_
    show Steps p.tables e below (T14.setTop (mkF m 20 #[vr a1, vi 1, vr a2, vi 1, vi 3, vi 1, vi p5] [(.int 255), (.int p5)])) _
    refine XS.icmpYes X14.here hx rfl (pc0 := 20) (pc' := 26) rfl (hb hby d5_20) rfl (flt (hc18 : ¬ ((255 : Int32) < p5))).2.2.2 (by decide) (by decide) ?_
    refine XS.aloadN X14.here hx rfl (hb hby d5_26) rfl rfl ?_
    refine XS.iloadN X14.here hx rfl (hb hby d5_27) rfl ?_
    refine XS.iload X14.here hx rfl (hb hby d5_28) rfl ?_
    refine XS.i2b X14.here hx rfl (hb hby d5_30) rfl ?_
    refine st21 _ ?_
    refine XS.iinc X21.here hx rfl (hb hby d5_32) rfl (l' := #[vr a1, vi 2, vr a2, vi 1, vi 3, vi 1, vi p5]) rfl ?_
    refine XS.iinc X21.here hx rfl (hb hby d5_35) rfl (l' := #[vr a1, vi 2, vr a2, vi 2, vi 3, vi 1, vi p5]) rfl ?_
    refine XS.iinc X21.here hx rfl (hb hby d5_38) rfl (l' := #[vr a1, vi 2, vr a2, vi 2, vi 3, vi 2, vi p5]) rfl ?_
    refine XS.goto X21.here hx rfl (pc0 := 41) (pc' := 3) rfl (hb hby d5_41) (by decide) (by decide) ?_
    show Steps p.tables e below (T21.setTop (mkF m 3 #[vr a1, vi 2, vr a2, vi 2, vi 3, vi 2, vi p5] [])) _
    refine XS.iload X21.here hx rfl (hb hby d5_3) rfl ?_
    refine XS.iload X21.here hx rfl (hb hby d5_5) rfl ?_
    refine XS.icmpNo X21.here hx rfl (hb hby d5_7) rfl (tlt ((by decide) : (2 : Int32) < (3 : Int32))).2.1 ?_
    refine XS.aloadN X21.here hx rfl (hb hby d5_10) rfl rfl ?_
    refine XS.iloadN X21.here hx rfl (hb hby d5_11) rfl ?_
    refine X21.caload hx (j := (2 : Int32)) (v := (.int p6)) (by rw [e21]; exact Ar23.1) (State.isArrayOf_alike hZ.alike Ar23.2.1) Ar23.2.2 hin23 hat23 (g := (mkF m 12 #[vr a1, vi 2, vr a2, vi 2, vi 3, vi 2, vi p5] [(.int 2), (.ref a1)])) rfl rfl (hb hby d5_12) _ ?_
    refine XS.istore X21.here hx rfl (hb hby d5_13) rfl (l' := #[vr a1, vi 2, vr a2, vi 2, vi 3, vi 2, vi p6]) rfl ?_
    refine XS.iload X21.here hx rfl (hb hby d5_15) rfl ?_
    refine XS.sipush X21.here hx rfl (hb hby d5_17) ?_
    refine XS.icmpYes X21.here hx rfl (pc0 := 20) (pc' := 26) rfl (hb hby d5_20) rfl (flt (hc24 : ¬ ((255 : Int32) < p6))).2.2.2 (by decide) (by decide) ?_
    show Steps p.tables e below (T21.setTop (mkF m 26 #[vr a1, vi 2, vr a2, vi 2, vi 3, vi 2, vi p6] [])) _
    refine XS.aloadN X21.here hx rfl (hb hby d5_26) rfl rfl ?_
    refine XS.iloadN X21.here hx rfl (hb hby d5_27) rfl ?_
    refine XS.iload X21.here hx rfl (hb hby d5_28) rfl ?_
    refine XS.i2b X21.here hx rfl (hb hby d5_30) rfl ?_
    refine st27 _ ?_
    refine XS.iinc X27.here hx rfl (hb hby d5_32) rfl (l' := #[vr a1, vi 3, vr a2, vi 2, vi 3, vi 2, vi p6]) rfl ?_
    refine XS.iinc X27.here hx rfl (hb hby d5_35) rfl (l' := #[vr a1, vi 3, vr a2, vi 3, vi 3, vi 2, vi p6]) rfl ?_
    refine XS.iinc X27.here hx rfl (hb hby d5_38) rfl (l' := #[vr a1, vi 3, vr a2, vi 3, vi 3, vi 3, vi p6]) rfl ?_
    refine XS.goto X27.here hx rfl (pc0 := 41) (pc' := 3) rfl (hb hby d5_41) (by decide) (by decide) ?_
    refine XS.iload X27.here hx rfl (hb hby d5_3) rfl ?_
    show Steps p.tables e below (T27.setTop (mkF m 5 #[vr a1, vi 3, vr a2, vi 3, vi 3, vi 3, vi p6] [(.int 3)])) _
    refine XS.iload X27.here hx rfl (hb hby d5_5) rfl ?_
    refine XS.icmpYes X27.here hx rfl (pc0 := 7) (pc' := 44) rfl (hb hby d5_7) rfl (flt ((by decide) : ¬ ((3 : Int32) < (3 : Int32)))).2.1 (by decide) (by decide) ?_
    refine XS.iload X27.here hx rfl (hb hby d5_44) rfl ?_
    exact retI X27 hx Bd.returns (hb hby d5_46) hr
  · show Qrm5_2 Z a1 a2 k3 p4 p5 p6 k10 h0 n0 _ T27.heap _
    rw [e27]
    exact ⟨rfl, N27, K27, Vw27, f28⟩
def Qrm4_2 (Z : State) (a1 : Addr) (k3 : ClassId) (p4 : Int32) (p5 : Int32) (p6 : Int32) (h0 : Heap) (n0 : Nat) (v : Option Value) (h : Heap) (L : List Loc) : Prop := ∃ b2 : Addr, ∃ k2 : ClassId, v = some (.ref b2) ∧ Fr n0 L ∧ Keep h0 h [] ∧ h0.size ≤ b2 ∧ Exa Z h b2 "[B" ∧ Arv Z h b2 k2 .byte (3 : Int32) [(.int (nar .byte (p4.toInt8.toInt32))), (.int (nar .byte (p5.toInt8.toInt32))), (.int (nar .byte (p6.toInt8.toInt32)))] (.int 0)
set_option maxRecDepth 65536 in
set_option maxHeartbeats 40000000 in
theorem rm4_2 (l : Launch) (Z : State) (a0 : Array Value) (hw : ∀ d ∈ tables_1, d.before a0 Z = true) (ws : List Jvm.Cond) (a1 : Addr) (k3 : ClassId) (p4 : Int32) (p5 : Int32) (p6 : Int32) (h0 : Heap) (n0 : Nat) (O0 : Old Z n0 h0) (V_7 : Arv Z h0 a1 k3 .char (3 : Int32) [(.int p4), (.int p5), (.int p6)] (.int 0)) (hc8 : ¬ ((255 : Int32) < p4)) (hc9 : ¬ ((255 : Int32) < p5)) (hc10 : ¬ ((255 : Int32) < p6)) :
    MF l Z h0 (⟨"java/lang/StringUTF16", "compress", "([CII)[B"⟩ : MethodName) jdk_52_method_16_code 6 (some (.array .byte)) ws (⟨1, 1, 3, 18⟩ : Room) #[(.ref a1), (.int 0), (.int 3)] (Qrm4_2 Z a1 k3 p4 p5 p6 h0 n0) := by
  refine MetFree.of_bodySF (plainFor_of_name pn_41) hisR ?_
  intro p e s m args below meth c s₁ Bd hml0 hP hK
  obtain ⟨rfl, hZ, hh⟩ := hP
  have hx := Bd.exec
  have hby := Bd.bytes
  have hml : c.maxLocals = 6 := hml0
  have hown : s.vm.findClass "java/lang/StringUTF16" = some m.cls := findClass_of_methodNamed Bd.named
  have X0 : Stand p l e (⟨1, 1, 3, 18⟩ : Room) s m #[(.ref a1), (.int 0), (.int 3)] below meth c s₁ [] 0 0 := Stand.of_body Bd
  have e0 : s₁.heap = h0 := by rw [← hh, Bd.state]; rfl
  have N0 := Fr.nil n0
  have pre0 : ∀ t, Steps p.tables e below (s₁.setTop (mkF m 0 #[vr a1, vi 0, vi 3, .unset, .unset, .unset] [])) t → Steps p.tables e below (s₁.setTop (entryFrame m #[(.ref a1), (.int 0), (.int 3)] 6)) t := fun t k => castTop (ef_4_RII m a1 (0 : Int32) (3 : Int32)) k
  obtain ⟨T2, h2, k2, X2, e2, E2, A2, B2, st2⟩ := newPE X0 hx hZ (W hw 19 rfl) e0 (g := (mkF m 1 #[vr a1, vi 0, vi 3, .unset, .unset, .unset] [(.int 3)])) rfl (hb hby d4_1) rfl (by decide) (cap := 3) (by decide) (by decide) (by decide) (by decide) (ad := "[B") (by decide)
  obtain ⟨b2, g2⟩ : ∃ z, z = h0.size := ⟨_, rfl⟩
  rw [← g2] at A2 B2 st2
  have g_b2 := own_born O0 (own_eqle g2)
  have sz_b2 := Nat.le_trans (Keep.refl h0 []).1 (own_eqle g2)
  have K2 := (Keep.refl h0 []).ext E2
  have O2 := O0.ext E2
  have V2 : Arv Z h2 b2 k2 .byte (3 : Int32) [] (.int 0) := Arv.new A2 (by decide)
  have f11 := (V_7.ext E2)
  obtain ⟨_, T12, L12, X12, hQ12, st12⟩ := cS X2 hx hZ hown (W hw 20 rfl) (W hw 21 rfl) (W hw 17 rfl) (W hw 22 rfl) (by decide) (rm5_2 l Z a0 hw [] a1 b2 k3 p4 p5 p6 k2 h2 n0 O2 f11 hc8 V2 g_b2 B2 (own_ltn V_7.lt sz_b2) hc9 hc10) e2 #[vr a1, vi 0, vi 3, vr b2, .unset, .unset] [] (by rw [hml]; rfl) (hb hby d4_9) pd_42 rfl (W := 0) (Nat.le_of_eq rfl) (by decide) (by decide) (by decide) (by decide)
  obtain ⟨rfl, Nq12, K12, P12_0, P12_1⟩ := hQ12
  have N12 := Fr.app N0 Nq12
  have KK12 := Keep.trans (h := h2) K2 K12 (allS (Or.inr sz_b2) all0)
  obtain ⟨fs, hr, hrun, hended, hW, hsame⟩ := X12.leave (v := some (.ref b2)) (fun h => by rw [Bd.returns] at h; cases h)
  refine ⟨_, _, pre0 _ ?_, hrun, hended, _, _, rfl, ?_, ⟨_, rfl⟩, hW, hsame.mono (by decide) (by decide)⟩
  · show Steps p.tables e below (s₁.setTop (mkF m 0 #[vr a1, vi 0, vi 3, .unset, .unset, .unset] [])) _
    refine XS.iloadN X0.here hx rfl (hb hby d4_0) rfl ?_
    refine st2 _ ?_
    refine XS.astoreN X2.here hx rfl (hb hby d4_3) rfl rfl (l' := #[vr a1, vi 0, vi 3, vr b2, .unset, .unset]) rfl ?_
    refine XS.aloadN X2.here hx rfl (hb hby d4_4) rfl rfl ?_
    refine XS.iloadN X2.here hx rfl (hb hby d4_5) rfl ?_
    refine XS.aloadN X2.here hx rfl (hb hby d4_6) rfl rfl ?_
    refine XS.iconst X2.here hx rfl (hb hby d4_7) ?_
    refine XS.iloadN X2.here hx rfl (hb hby d4_8) rfl ?_
    refine st12 _ ?_
    refine XS.istore X12.here hx rfl (hb hby d4_12) rfl (l' := #[vr a1, vi 0, vi 3, vr b2, vi 3, .unset]) rfl ?_
    show Steps p.tables e below (T12.setTop (mkF m 14 #[vr a1, vi 0, vi 3, vr b2, vi 3, .unset] [])) _
    refine XS.iload X12.here hx rfl (hb hby d4_14) rfl ?_
    refine XS.iloadN X12.here hx rfl (hb hby d4_16) rfl ?_
    refine XS.icmpYes X12.here hx rfl (pc0 := 17) (pc' := 57) rfl (hb hby d4_17) rfl (teq ((by decide) : (3 : Int32) = (3 : Int32))).1 (by decide) (by decide) ?_
    refine XS.aloadN X12.here hx rfl (hb hby d4_57) rfl rfl ?_
    jvm_step X12.here [X12.here.top, hx, (hb hby d4_58), X12.method', Bd.returns, Value.isRef, FieldType.isReference]
    first | (intro acts; rw [hr _ acts rfl rfl rfl]) | rw [hr _ _ rfl rfl rfl]
    exact Steps.refl _
  · show Qrm4_2 Z a1 k3 p4 p5 p6 h0 n0 _ T12.heap _
    exact ⟨b2, k2, rfl, N12, KK12, sz_b2, P12_1, P12_0⟩
def Qrm6_2 (Z : State) (a1 : Addr) (k2 : ClassId) (p3 : Int32) (p4 : Int32) (p5 : Int32) (h0 : Heap) (n0 : Nat) (v : Option Value) (h : Heap) (L : List Loc) : Prop := v = some (.int 0) ∧ Fr n0 L ∧ h = h0
set_option maxRecDepth 65536 in
set_option maxHeartbeats 40000000 in
theorem rm6_2 (l : Launch) (Z : State) (a0 : Array Value) (hw : ∀ d ∈ tables_1, d.before a0 Z = true) (ws : List Jvm.Cond) (a1 : Addr) (k2 : ClassId) (p3 : Int32) (p4 : Int32) (p5 : Int32) (h0 : Heap) (n0 : Nat) (O0 : Old Z n0 h0) (V_6 : Arv Z h0 a1 k2 .byte (3 : Int32) [(.int p3), (.int p4), (.int p5)] (.int 0)) :
    MF l Z h0 (⟨"java/lang/StringUTF16", "coderFromArrayLen", "([BI)B"⟩ : MethodName) jdk_52_method_15_code 2 (some .byte) ws (⟨0, 0, 0, 0⟩ : Room) #[(.ref a1), (.int 3)] (Qrm6_2 Z a1 k2 p3 p4 p5 h0 n0) := by
  refine MetFree.of_bodySF (plainFor_of_name pn_41) hisR ?_
  intro p e s m args below meth c s₁ Bd hml0 hP hK
  obtain ⟨rfl, hZ, hh⟩ := hP
  have hx := Bd.exec
  have hby := Bd.bytes
  have X0 : Stand p l e (⟨0, 0, 0, 0⟩ : Room) s m #[(.ref a1), (.int 3)] below meth c s₁ [] 0 0 := Stand.of_body Bd
  have e0 : s₁.heap = h0 := by rw [← hh, Bd.state]; rfl
  have N0 := Fr.nil n0
  have pre0 : ∀ t, Steps p.tables e below (s₁.setTop (mkF m 0 #[vr a1, vi 3] [])) t → Steps p.tables e below (s₁.setTop (entryFrame m #[(.ref a1), (.int 3)] 2)) t := fun t k => castTop (ef_6_RI m a1 (3 : Int32)) k
  obtain ⟨cl7, Ar7, q7, S7, M7, Hs7, G7⟩ := id V_6
  obtain ⟨fs, hr, hrun, hended, hW, hsame⟩ := X0.leave (v := some (.int 0)) (fun h => by rw [Bd.returns] at h; cases h)
  refine ⟨_, _, pre0 _ ?_, hrun, hended, _, _, rfl, ?_, ⟨_, rfl⟩, hW, hsame.mono (by decide) (by decide)⟩
  · show Steps p.tables e below (s₁.setTop (mkF m 0 #[vr a1, vi 3] [])) _
    refine XS.iloadN X0.here hx rfl (hb hby d6_0) rfl ?_
    refine XS.aloadN X0.here hx rfl (hb hby d6_1) rfl rfl ?_
    refine X0.arraylength hx (by rw [e0]; exact Ar7.1) (State.isArrayOf_alike hZ.alike Ar7.2.1) (g := (mkF m 2 #[vr a1, vi 3] [(.ref a1), (.int 3)])) rfl rfl (hb hby d6_2) _ ?_
    rw [len_of S7 M7]
    refine XS.isub X0.here hx rfl (hb hby d6_3) rfl ?_
    show Steps p.tables e below (s₁.setTop (mkF m 4 #[vr a1, vi 3] [(.int ((3 : Int32) - (3 : Int32)))])) _
    rw [show ((3 : Int32) - (3 : Int32)) = (0 : Int32) from by decide]
    refine XS.bipush X0.here hx rfl (hb hby d6_4) ?_
    refine XS.iushr X0.here hx rfl (hb hby d6_6) rfl ?_
    show Steps p.tables e below (s₁.setTop (mkF m 7 #[vr a1, vi 3] [(.int (((0 : Int32).toUInt32 >>> ((31 : Int32) &&& 31).toUInt32).toInt32))])) _
    rw [show (((0 : Int32).toUInt32 >>> ((31 : Int32) &&& 31).toUInt32).toInt32) = (0 : Int32) from by decide]
    refine XS.i2b X0.here hx rfl (hb hby d6_7) rfl ?_
    show Steps p.tables e below (s₁.setTop (mkF m 8 #[vr a1, vi 3] [(.int ((0 : Int32).toInt8.toInt32))])) _
    rw [show ((0 : Int32).toInt8.toInt32) = (0 : Int32) from by decide]
    exact retN X0 hx (t := .byte) Bd.returns (by simp) (hb hby d6_8) hr
  · show Qrm6_2 Z a1 k2 p3 p4 p5 h0 n0 _ s₁.heap _
    rw [e0]
    exact ⟨rfl, N0, rfl⟩
def Qrm2_3 (Z : State) (a1 : Addr) (a2 : Addr) (p4 : Int32) (k8 : ClassId) (p9 : Int32) (p10 : Int32) (p11 : Int32) (h0 : Heap) (n0 : Nat) (v : Option Value) (h : Heap) (L : List Loc) : Prop := ∃ b17 : Addr, ∃ k18 : ClassId, v = none ∧ Fr n0 L ∧ Keep h0 h [a1] ∧ h0.size ≤ b17 ∧ Exa Z h a1 "java/lang/String" ∧ Fld Z h a1 "java/lang/String" "coder" "B" (.int 0) ∧ Fld Z h a1 "java/lang/String" "value" "[B" (.ref b17) ∧ Exa Z h b17 "[B" ∧ Arv Z h b17 k18 .byte (3 : Int32) [(.int (nar .byte (p9.toInt8.toInt32))), (.int (nar .byte (p10.toInt8.toInt32))), (.int (nar .byte (p11.toInt8.toInt32)))] (.int 0)
set_option maxRecDepth 65536 in
set_option maxHeartbeats 40000000 in
theorem rm2_3 (l : Launch) (Z : State) (a0 : Array Value) (hw : ∀ d ∈ tables_1, d.before a0 Z = true) (ws : List Jvm.Cond) (a1 : Addr) (a2 : Addr) (p4 : Int32) (k8 : ClassId) (p9 : Int32) (p10 : Int32) (p11 : Int32) (h0 : Heap) (n0 : Nat) (O0 : Old Z n0 h0) (S_5 : Sta Z Z.heap "java/lang/String" "COMPACT_STRINGS" "Z" (.int p4)) (hc7 : ¬ (p4 = (0 : Int32))) (V_12 : Arv Z h0 a2 k8 .char (3 : Int32) [(.int p9), (.int p10), (.int p11)] (.int 0)) (hc13 : ¬ ((255 : Int32) < p9)) (hc14 : ¬ ((255 : Int32) < p10)) (hc15 : ¬ ((255 : Int32) < p11)) (E_21 : Exa Z h0 a1 "java/lang/String") (F_22 : Fld Z h0 a1 "java/lang/String" "coder" "B" (.int 0)) (g_a1 : n0 ≤ a1) (F_26 : Fld Z h0 a1 "java/lang/String" "value" "[B" .null) :
    MF l Z h0 (⟨"java/lang/String", "<init>", "([CIILjava/lang/Void;)V"⟩ : MethodName) jdk_42_method_149_code 6 none ws (⟨2, 1, 3, 35⟩ : Room) #[(.ref a1), (.ref a2), (.int 0), (.int 3), .null] (Qrm2_3 Z a1 a2 p4 k8 p9 p10 p11 h0 n0) := by
  refine MetFree.of_bodySF (plainFor_of_name pn_0) hisR ?_
  intro p e s m args below meth c s₁ Bd hml0 hP hK
  obtain ⟨rfl, hZ, hh⟩ := hP
  have hx := Bd.exec
  have hby := Bd.bytes
  have hml : c.maxLocals = 6 := hml0
  have hown : s.vm.findClass "java/lang/String" = some m.cls := findClass_of_methodNamed Bd.named
  have hnm := (name_of_methodNamed Bd.named Bd.method).1
  have X0 : Stand p l e (⟨2, 1, 3, 35⟩ : Room) s m #[(.ref a1), (.ref a2), (.int 0), (.int 3), .null] below meth c s₁ [] 0 0 := Stand.of_body Bd
  have e0 : s₁.heap = h0 := by rw [← hh, Bd.state]; rfl
  have N0 := Fr.nil n0
  have pre0 : ∀ t, Steps p.tables e below (s₁.setTop (mkF m 0 #[vr a1, vr a2, vi 0, vi 3, .val .null, .unset] [])) t → Steps p.tables e below (s₁.setTop (entryFrame m #[(.ref a1), (.ref a2), (.int 0), (.int 3), .null] 6)) t := fun t k => castTop (ef_2_RRIIn m a1 a2 (0 : Int32) (3 : Int32)) k
  obtain ⟨T3, X3, e3, st3⟩ := initO X0 hx hZ hown (W hw 11 rfl) (W hw 12 rfl) (W hw 13 rfl) e0 (g := (mkF m 1 #[vr a1, vr a2, vi 0, vi 3, .val .null, .unset] [(.ref a1)])) rfl (by rw [hml]; rfl) rfl (hb hby d2_1) (by decide) (W := 0) (by show 2 * 0 + _ ≤ _; exact Nat.le_of_eq rfl) (by decide)
  obtain ⟨T6, X6, e6, st6⟩ := getS2 X3 hx hZ hown (host := "") (Or.inl (W hw 14 rfl)) Via.refl e3 (S_5.ext O0.2) (g := (mkF m 27 #[vr a1, vr a2, vi 0, vi 3, .val .null, .unset] [])) rfl (hb hby d2_27)
  obtain ⟨_, T16, L16, X16, hQ16, st16⟩ := cS X6 hx hZ hown (W hw 15 rfl) (W hw 16 rfl) (W hw 17 rfl) (W hw 18 rfl) (by decide) (rm4_2 l Z a0 hw [] a2 k8 p9 p10 p11 h0 n0 O0 V_12 hc13 hc14 hc15) e6 #[vr a1, vr a2, vi 0, vi 3, .val .null, .unset] [] (by rw [hml]; rfl) (hb hby d2_36) pd_43 rfl (W := 0) (Nat.le_of_eq rfl) (by decide) (by decide) (by decide) (by decide)
  obtain ⟨b17, k18, rfl, Nq16, K16, sq16_b17, P16_0, P16_1⟩ := hQ16
  have N16 := Fr.app N0 Nq16
  have sz_b17 := Nat.le_trans (Keep.refl h0 [a1]).1 sq16_b17
  have KK16 := Keep.trans (h := h0) (Keep.refl h0 [a1]) K16 all0
  have O16 := O0.keep K16 all0
  obtain ⟨_, T20, L20, X20, hQ20, st20⟩ := cS X16 hx hZ hown (W hw 23 rfl) (W hw 24 rfl) (W hw 17 rfl) (W hw 25 rfl) (by decide) (rm6_2 l Z a0 hw [] b17 k18 (nar .byte (p9.toInt8.toInt32)) (nar .byte (p10.toInt8.toInt32)) (nar .byte (p11.toInt8.toInt32)) T16.heap n0 O16 P16_1) rfl #[vr a1, vr a2, vi 0, vi 3, .val .null, vr b17] [(.ref a1)] (by rw [hml]; rfl) (hb hby d2_45) pd_44 rfl (W := 1) (Nat.le_of_eq rfl) (by decide) (by decide) (by decide) (by decide)
  obtain ⟨rfl, Nq20, e20⟩ := hQ20
  have N20 := Fr.app N16 Nq20
  have f23 := (F_22.keep K16 nin0)
  have f24 := (E_21.keep K16)
  obtain ⟨T25, h25, X25, e25, W25, st25⟩ := putFN X20 hx hZ hown (W hw 26 rfl) Via.refl e20 f23 f24 (Or.inr ⟨(W hw 27 rfl), rfl, hnm⟩) (W hw 1 rfl) (ty := .byte) (v' := (.int 0)) (by decide) rfl rfl (g := (mkF m 48 #[vr a1, vr a2, vi 0, vi 3, .val .null, vr b17] [(.int 0), (.ref a1)])) rfl rfl (hb hby d2_48)
  have K25 := KK16.wr W25 (Or.inl (List.mem_of_getElem? (i := 0) rfl))
  have N25 := Fr.snoc X25 N20 g_a1
  have Fw25 := f23.same W25
  have f27 := ((F_26.keep K16 nin0).other W25 (Or.inr (slot_ne (Or.inr (W hw 29 rfl)) (Or.inr (W hw 27 rfl)) (by decide) (t := (.array .byte)) (t' := .byte) (by decide) (by decide))))
  have f28 := (f24.wr W25)
  obtain ⟨T29, h29, X29, e29, W29, st29⟩ := putF X25 hx hZ hown (host := "") (Or.inl (W hw 28 rfl)) Via.refl e25 f27 f28 (Or.inr ⟨(W hw 29 rfl), rfl, hnm⟩) (W hw 1 rfl) (ty := (.array .byte)) (by decide) rfl rfl (g := (mkF m 54 #[vr a1, vr a2, vi 0, vi 3, .val .null, vr b17] [(.ref b17), (.ref a1)])) rfl rfl (hb hby d2_54)
  have K29 := K25.wr W29 (Or.inl (List.mem_of_getElem? (i := 0) rfl))
  have N29 := Fr.snoc X29 N25 g_a1
  have Fw29 := f27.same W29
  have f30 := (f28.wr W29)
  have f31 := (Fw25.other W29 (Or.inr (slot_ne (Or.inr (W hw 27 rfl)) (Or.inr (W hw 29 rfl)) (by decide) (t := .byte) (t' := (.array .byte)) (by decide) (by decide))))
  have f32 := ((P16_0.wr W25).wr W29)
  have f33 := ((P16_1.other W25 (Ne.symm (own_ltn E_21.lt sz_b17))).other W29 (Ne.symm (own_ltn E_21.lt sz_b17)))
  obtain ⟨fs, hr, hrun, hended, hW, hsame⟩ := X29.leave (v := none) (fun _ => rfl)
  refine ⟨_, _, pre0 _ ?_, hrun, hended, _, _, rfl, ?_, ⟨_, rfl⟩, hW, hsame.mono (by decide) (by decide)⟩
  · show Steps p.tables e below (s₁.setTop (mkF m 0 #[vr a1, vr a2, vi 0, vi 3, .val .null, .unset] [])) _
    refine XS.aloadN X0.here hx rfl (hb hby d2_0) rfl rfl ?_
    refine st3 _ ?_
    refine XS.iloadN X3.here hx rfl (hb hby d2_4) rfl ?_
    refine XS.ifYes X3.here hx rfl (pc0 := 5) (pc' := 27) rfl (hb hby d2_5) rfl ((if0 _ _).trans (feq ((by decide) : ¬ ((3 : Int32) = (0 : Int32)))).2) (by decide) (by decide) ?_
    refine st6 _ ?_
    refine XS.ifNo X6.here hx rfl (hb hby d2_30) rfl ((if0 _ _).trans (feq (hc7 : ¬ (p4 = (0 : Int32)))).1) ?_
    refine XS.aloadN X6.here hx rfl (hb hby d2_33) rfl rfl ?_
    refine XS.iloadN X6.here hx rfl (hb hby d2_34) rfl ?_
    refine XS.iloadN X6.here hx rfl (hb hby d2_35) rfl ?_
    refine st16 _ ?_
    show Steps p.tables e below (T16.setTop (mkF m 39 #[vr a1, vr a2, vi 0, vi 3, .val .null, .unset] [(.ref b17)])) _
    refine XS.astore X16.here hx rfl (hb hby d2_39) rfl rfl (l' := #[vr a1, vr a2, vi 0, vi 3, .val .null, vr b17]) rfl ?_
    refine XS.aloadN X16.here hx rfl (hb hby d2_41) rfl rfl ?_
    refine XS.aload X16.here hx rfl (hb hby d2_42) rfl rfl ?_
    refine XS.iloadN X16.here hx rfl (hb hby d2_44) rfl ?_
    refine st20 _ ?_
    refine st25 _ ?_
    refine XS.aloadN X25.here hx rfl (hb hby d2_51) rfl rfl ?_
    refine XS.aload X25.here hx rfl (hb hby d2_52) rfl rfl ?_
    refine st29 _ ?_
    exact X29.returnOut hx Bd.returns (hb hby d2_57) hr
  · show Qrm2_3 Z a1 a2 p4 k8 p9 p10 p11 h0 n0 _ T29.heap _
    rw [e29]
    exact ⟨b17, k18, rfl, N29, K29, sz_b17, f30, f31, Fw29, f32, f33⟩
def Qrm1_3 (Z : State) (a1 : Addr) (a2 : Addr) (k3 : ClassId) (p4 : Int32) (p5 : Int32) (p6 : Int32) (p9 : Int32) (h0 : Heap) (n0 : Nat) (v : Option Value) (h : Heap) (L : List Loc) : Prop := ∃ b19 : Addr, ∃ k20 : ClassId, v = none ∧ Fr n0 L ∧ Keep h0 h [a1] ∧ h0.size ≤ b19 ∧ Exa Z h a1 "java/lang/String" ∧ Fld Z h a1 "java/lang/String" "coder" "B" (.int 0) ∧ Fld Z h a1 "java/lang/String" "value" "[B" (.ref b19) ∧ Exa Z h b19 "[B" ∧ Arv Z h b19 k20 .byte (3 : Int32) [(.int (nar .byte (p4.toInt8.toInt32))), (.int (nar .byte (p5.toInt8.toInt32))), (.int (nar .byte (p6.toInt8.toInt32)))] (.int 0)
set_option maxRecDepth 65536 in
set_option maxHeartbeats 40000000 in
theorem rm1_3 (l : Launch) (Z : State) (a0 : Array Value) (hw : ∀ d ∈ tables_1, d.before a0 Z = true) (ws : List Jvm.Cond) (a1 : Addr) (a2 : Addr) (k3 : ClassId) (p4 : Int32) (p5 : Int32) (p6 : Int32) (p9 : Int32) (h0 : Heap) (n0 : Nat) (O0 : Old Z n0 h0) (V_7 : Arv Z h0 a2 k3 .char (3 : Int32) [(.int p4), (.int p5), (.int p6)] (.int 0)) (S_10 : Sta Z Z.heap "java/lang/String" "COMPACT_STRINGS" "Z" (.int p9)) (hc11 : ¬ (p9 = (0 : Int32))) (hc12 : ¬ ((255 : Int32) < p4)) (hc13 : ¬ ((255 : Int32) < p5)) (hc14 : ¬ ((255 : Int32) < p6)) (E_15 : Exa Z h0 a1 "java/lang/String") (F_16 : Fld Z h0 a1 "java/lang/String" "coder" "B" (.int 0)) (g_a1 : n0 ≤ a1) (F_17 : Fld Z h0 a1 "java/lang/String" "value" "[B" .null) :
    MF l Z h0 (⟨"java/lang/String", "<init>", "([C)V"⟩ : MethodName) jdk_42_method_3_code 2 none ws (⟨3, 1, 3, 52⟩ : Room) #[(.ref a1), (.ref a2)] (Qrm1_3 Z a1 a2 k3 p4 p5 p6 p9 h0 n0) := by
  refine MetFree.of_bodySF (plainFor_of_name pn_0) hisR ?_
  intro p e s m args below meth c s₁ Bd hml0 hP hK
  obtain ⟨rfl, hZ, hh⟩ := hP
  have hx := Bd.exec
  have hby := Bd.bytes
  have hml : c.maxLocals = 2 := hml0
  have hown : s.vm.findClass "java/lang/String" = some m.cls := findClass_of_methodNamed Bd.named
  have X0 : Stand p l e (⟨3, 1, 3, 52⟩ : Room) s m #[(.ref a1), (.ref a2)] below meth c s₁ [] 0 0 := Stand.of_body Bd
  have e0 : s₁.heap = h0 := by rw [← hh, Bd.state]; rfl
  have N0 := Fr.nil n0
  have pre0 : ∀ t, Steps p.tables e below (s₁.setTop (mkF m 0 #[vr a1, vr a2] [])) t → Steps p.tables e below (s₁.setTop (entryFrame m #[(.ref a1), (.ref a2)] 2)) t := fun t k => castTop (ef_1_RR m a1 a2) k
  obtain ⟨cl8, Ar8, q8, S8, M8, Hs8, G8⟩ := id V_7
  obtain ⟨_, T18, L18, X18, hQ18, st18⟩ := cI X0 hx hZ hown (W hw 7 rfl) (W hw 8 rfl) (W hw 10 rfl) (W hw 2 rfl) rfl (by decide) (rm2_3 l Z a0 hw [] a1 a2 p9 k3 p4 p5 p6 h0 n0 O0 S_10 hc11 V_7 hc12 hc13 hc14 E_15 F_16 g_a1 F_17) e0 #[vr a1, vr a2] [] (by rw [hml]; rfl) (hb hby d1_6) pd_1 rfl (W := 0) (Nat.le_of_eq rfl) (by decide) (by decide) (by decide) (by decide)
  obtain ⟨b19, k20, rfl, Nq18, K18, sq18_b19, P18_0, P18_1, P18_2, P18_3, P18_4⟩ := hQ18
  have N18 := Fr.app N0 Nq18
  have sz_b19 := Nat.le_trans (Keep.refl h0 [a1]).1 sq18_b19
  have KK18 := Keep.trans (h := h0) (Keep.refl h0 [a1]) K18 (allS (Or.inl (List.mem_of_getElem? (i := 0) rfl)) all0)
  obtain ⟨fs, hr, hrun, hended, hW, hsame⟩ := X18.leave (v := none) (fun _ => rfl)
  refine ⟨_, _, pre0 _ ?_, hrun, hended, _, _, rfl, ?_, ⟨_, rfl⟩, hW, hsame.mono (by decide) (by decide)⟩
  · show Steps p.tables e below (s₁.setTop (mkF m 0 #[vr a1, vr a2] [])) _
    refine XS.aloadN X0.here hx rfl (hb hby d1_0) rfl rfl ?_
    refine XS.aloadN X0.here hx rfl (hb hby d1_1) rfl rfl ?_
    refine XS.iconst X0.here hx rfl (hb hby d1_2) ?_
    refine XS.aloadN X0.here hx rfl (hb hby d1_3) rfl rfl ?_
    refine X0.arraylength hx (by rw [e0]; exact Ar8.1) (State.isArrayOf_alike hZ.alike Ar8.2.1) (g := (mkF m 4 #[vr a1, vr a2] [(.ref a2), (.int 0), (.ref a2), (.ref a1)])) rfl rfl (hb hby d1_4) _ ?_
    rw [len_of S8 M8]
    refine XS.aconstNull X0.here hx rfl (hb hby d1_5) ?_
    refine st18 _ ?_
    exact X18.returnOut hx Bd.returns (hb hby d1_9) hr
  · show Qrm1_3 Z a1 a2 k3 p4 p5 p6 p9 h0 n0 _ T18.heap _
    exact ⟨b19, k20, rfl, N18, KK18, sz_b19, P18_0, P18_1, P18_2, P18_3, P18_4⟩
theorem ef_0_III (m : MethodId) (x0 : Int32) (x1 : Int32) (x2 : Int32) : entryFrame m #[(.int x0), (.int x1), (.int x2)] maxLocals = mkF m 0 #[vi x0, vi x1, vi x2, .unset, .unset, .unset, .unset, .unset, .unset, .unset, .unset, .unset, .unset, .unset] [] := by first | (simp [entryFrame, mkF, argsToLocals, Value.category, maxLocals]; done) | rfl
def Qrm0 (Z : State) (p1 : Int32) (p2 : Int32) (p3 : Int32) (cs4 : Int32) (h0 : Heap) (n0 : Nat) (v : Option Value) (h : Heap) (L : List Loc) : Prop := v = some (.int (1 : Int32)) ∧ Fr n0 L
set_option maxRecDepth 65536 in
set_option maxHeartbeats 40000000 in
theorem rm0 (l : Launch) (Z : State) (a0 : Array Value) (hw : ∀ d ∈ tables_1, d.before a0 Z = true) (ws : List Jvm.Cond) (p1 : Int32) (p2 : Int32) (p3 : Int32) (cs4 : Int32) (h0 : Heap) (n0 : Nat) (O0 : Old Z n0 h0) (S_cs : Sta Z Z.heap "java/lang/String" "COMPACT_STRINGS" "Z" (.int cs4)) (hcs : ¬ (cs4 = (0 : Int32))) (T_tab : own_Tab Z) (T_SF : own_SF Z) :
    MetFree l x (head1 (Jvm.Cond.code x code maxLocals ret :: ws) room_1) (fun a U => a = #[(.int p1), (.int p2), (.int p3)] ∧ Z.Warmed39 U.vm ∧ U.heap = h0 ∧ own_CH Z own_EL n0 U.vm h0) (fun _ _ _ _ _ => True) (fun _ U o U' => ∃ v L, o = .returned v ∧ Qrm0 Z p1 p2 p3 cs4 h0 n0 v U'.heap L ∧ ReturnedEndW U o U' L room_1.cells room_1.slots) := by
  refine MetFree.of_bodySF (plainFor_of_name pn_31) hisR ?_
  intro p e s m args below meth c s₁ Bd hml0 hP hK
  obtain ⟨rfl, hZ, hh, hCH⟩ := hP
  have hx := Bd.exec
  have hby := Bd.bytes
  have hml : c.maxLocals = 14 := hml0
  have hown : s.vm.findClass "com/example/tight_bound/tightbound/HeapObjectToStringPinLaw" = some m.cls := findClass_of_methodNamed Bd.named
  have X0 : Stand p l e room_1 s m #[(.int p1), (.int p2), (.int p3)] below meth c s₁ [] 0 0 := Stand.of_body Bd
  have e0 : s₁.heap = h0 := by rw [← hh, Bd.state]; rfl
  have N0 := Fr.nil n0
  have pre0 : ∀ t, Steps p.tables e below (s₁.setTop (mkF m 0 #[vi p1, vi p2, vi p3, .unset, .unset, .unset, .unset, .unset, .unset, .unset, .unset, .unset, .unset, .unset] [])) t → Steps p.tables e below (s₁.setTop (entryFrame m #[(.int p1), (.int p2), (.int p3)] maxLocals)) t := fun t k => castTop (ef_0_III m p1 p2 p3) k
  have hS0 : s.Since s.vm 0 := (State.WarmedH.refl s).since 0
  obtain ⟨ln, h_ln⟩ : ∃ z : Int32, z = (p2 &&& (3 : Int32)) := ⟨_, rfl⟩
  obtain ⟨ca, h_ca⟩ : ∃ z : Int32, z = (p1 &&& (255 : Int32)) := ⟨_, rfl⟩
  have h0_ca : ¬ ca < (0 : Int32) := by rw [h_ca]; exact own_and0 _
  have h1_ca : ¬ (255 : Int32) < ca := by rw [h_ca]; exact own_255 _
  obtain ⟨cb, h_cb⟩ : ∃ z : Int32, z = (((p1.toUInt32 >>> ((8 : Int32) &&& 31).toUInt32).toInt32) &&& (255 : Int32)) := ⟨_, rfl⟩
  have h0_cb : ¬ cb < (0 : Int32) := by rw [h_cb]; exact own_and0 _
  have h1_cb : ¬ (255 : Int32) < cb := by rw [h_cb]; exact own_255 _
  obtain ⟨cc, h_cc⟩ : ∃ z : Int32, z = (((p1.toUInt32 >>> ((16 : Int32) &&& 31).toUInt32).toInt32) &&& (255 : Int32)) := ⟨_, rfl⟩
  have h0_cc : ¬ cc < (0 : Int32) := by rw [h_cc]; exact own_and0 _
  have h1_cc : ¬ (255 : Int32) < cc := by rw [h_cc]; exact own_255 _
  have hkk := own_and3 p2 ln h_ln
  have pre5 : ∀ t, Steps p.tables e below (s₁.setTop (mkF m 34 #[vi p1, vi p2, vi p3, vi ln, vi ca, vi cb, vi cc, .unset, .unset, .unset, .unset, .unset, .unset, .unset] [])) t → Steps p.tables e below (s₁.setTop (entryFrame m #[(.int p1), (.int p2), (.int p3)] maxLocals)) t := fun t kt => pre0 t (by
    show Steps p.tables e below (s₁.setTop (mkF m 0 #[vi p1, vi p2, vi p3, .unset, .unset, .unset, .unset, .unset, .unset, .unset, .unset, .unset, .unset, .unset] [])) _
    refine XS.iloadN X0.here hx rfl (hb hby at_0) rfl ?_
    refine XS.iconst X0.here hx rfl (hb hby at_1) ?_
    refine XS.iand X0.here hx rfl (hb hby at_2) rfl ?_
    show Steps p.tables e below (s₁.setTop (mkF m 3 #[vi p1, vi p2, vi p3, .unset, .unset, .unset, .unset, .unset, .unset, .unset, .unset, .unset, .unset, .unset] [(.int (p2 &&& (3 : Int32)))])) _
    rw [← h_ln]
    refine XS.istoreN X0.here hx rfl (hb hby at_3) rfl (l' := #[vi p1, vi p2, vi p3, vi ln, .unset, .unset, .unset, .unset, .unset, .unset, .unset, .unset, .unset, .unset]) rfl ?_
    refine XS.iloadN X0.here hx rfl (hb hby at_4) rfl ?_
    refine XS.sipush X0.here hx rfl (hb hby at_5) ?_
    refine XS.iand X0.here hx rfl (hb hby at_8) rfl ?_
    refine XS.i2c X0.here hx rfl (hb hby at_9) rfl ?_
    show Steps p.tables e below (s₁.setTop (mkF m 10 #[vi p1, vi p2, vi p3, vi ln, .unset, .unset, .unset, .unset, .unset, .unset, .unset, .unset, .unset, .unset] [(.int ((p1 &&& (255 : Int32)).toUInt32.toUInt16.toUInt32.toInt32))])) _
    rw [i2c_mask]
    show Steps p.tables e below (s₁.setTop (mkF m 10 #[vi p1, vi p2, vi p3, vi ln, .unset, .unset, .unset, .unset, .unset, .unset, .unset, .unset, .unset, .unset] [(.int (p1 &&& (255 : Int32)))])) _
    rw [← h_ca]
    refine XS.istore X0.here hx rfl (hb hby at_10) rfl (l' := #[vi p1, vi p2, vi p3, vi ln, vi ca, .unset, .unset, .unset, .unset, .unset, .unset, .unset, .unset, .unset]) rfl ?_
    refine XS.iloadN X0.here hx rfl (hb hby at_12) rfl ?_
    refine XS.bipush X0.here hx rfl (hb hby at_13) ?_
    refine XS.iushr X0.here hx rfl (hb hby at_15) rfl ?_
    refine XS.sipush X0.here hx rfl (hb hby at_16) ?_
    refine XS.iand X0.here hx rfl (hb hby at_19) rfl ?_
    refine XS.i2c X0.here hx rfl (hb hby at_20) rfl ?_
    show Steps p.tables e below (s₁.setTop (mkF m 21 #[vi p1, vi p2, vi p3, vi ln, vi ca, .unset, .unset, .unset, .unset, .unset, .unset, .unset, .unset, .unset] [(.int ((((p1.toUInt32 >>> ((8 : Int32) &&& 31).toUInt32).toInt32) &&& (255 : Int32)).toUInt32.toUInt16.toUInt32.toInt32))])) _
    rw [i2c_mask]
    show Steps p.tables e below (s₁.setTop (mkF m 21 #[vi p1, vi p2, vi p3, vi ln, vi ca, .unset, .unset, .unset, .unset, .unset, .unset, .unset, .unset, .unset] [(.int (((p1.toUInt32 >>> ((8 : Int32) &&& 31).toUInt32).toInt32) &&& (255 : Int32)))])) _
    rw [← h_cb]
    refine XS.istore X0.here hx rfl (hb hby at_21) rfl (l' := #[vi p1, vi p2, vi p3, vi ln, vi ca, vi cb, .unset, .unset, .unset, .unset, .unset, .unset, .unset, .unset]) rfl ?_
    refine XS.iloadN X0.here hx rfl (hb hby at_23) rfl ?_
    refine XS.bipush X0.here hx rfl (hb hby at_24) ?_
    refine XS.iushr X0.here hx rfl (hb hby at_26) rfl ?_
    refine XS.sipush X0.here hx rfl (hb hby at_27) ?_
    refine XS.iand X0.here hx rfl (hb hby at_30) rfl ?_
    refine XS.i2c X0.here hx rfl (hb hby at_31) rfl ?_
    show Steps p.tables e below (s₁.setTop (mkF m 32 #[vi p1, vi p2, vi p3, vi ln, vi ca, vi cb, .unset, .unset, .unset, .unset, .unset, .unset, .unset, .unset] [(.int ((((p1.toUInt32 >>> ((16 : Int32) &&& 31).toUInt32).toInt32) &&& (255 : Int32)).toUInt32.toUInt16.toUInt32.toInt32))])) _
    rw [i2c_mask]
    show Steps p.tables e below (s₁.setTop (mkF m 32 #[vi p1, vi p2, vi p3, vi ln, vi ca, vi cb, .unset, .unset, .unset, .unset, .unset, .unset, .unset, .unset] [(.int (((p1.toUInt32 >>> ((16 : Int32) &&& 31).toUInt32).toInt32) &&& (255 : Int32)))])) _
    rw [← h_cc]
    refine XS.istore X0.here hx rfl (hb hby at_32) rfl (l' := #[vi p1, vi p2, vi p3, vi ln, vi ca, vi cb, vi cc, .unset, .unset, .unset, .unset, .unset, .unset, .unset]) rfl ?_
    exact kt)
  rcases own_and3 p2 ln h_ln with hk | hk | hk | hk
  · obtain ⟨T6, h6, X6, e6, E6, A6, D6, U6, st6⟩ := newO X0 hx hZ hown (W hw 0 rfl) (W hw 1 rfl) (W hw 2 rfl) e0 (g := (mkF m 38 #[vi p1, vi p2, vi p3, vi ln, vi ca, vi cb, vi cc, .unset, .unset, .unset, .unset, .unset, .unset, .unset] [])) rfl (hb hby at_38) (by decide) (by decide)
    obtain ⟨b6, g6⟩ : ∃ z, z = h0.size := ⟨_, rfl⟩
    rw [← g6] at A6 D6 U6 st6
    have g_b6 := own_born O0 (own_eqle g6)
    have K6 := (Keep.refl h0 []).ext E6
    have O6 := O0.ext E6
    have F6_coder : Fld Z h6 b6 "java/lang/String" "coder" "B" (.int 0) := D6 (Or.inr (W hw 27 rfl)) (ty := .byte) (by decide)
    have F6_value : Fld Z h6 b6 "java/lang/String" "value" "[B" .null := D6 (Or.inr (W hw 29 rfl)) (ty := (.array .byte)) (by decide)
    obtain ⟨T7, h7, k7, X7, e7, E7, A7, B7, st7⟩ := newPE X6 hx hZ (W hw 3 rfl) e6 (g := (mkF m 43 #[vi p1, vi p2, vi p3, vi ln, vi ca, vi cb, vi cc, .unset, .unset, .unset, .unset, .unset, .unset, .unset] [(.int 0), (.ref b6), (.ref b6)])) rfl (hb hby at_43) rfl (by decide) (cap := 0) (by decide) (by decide) (by decide) (by decide) (ad := "[C") (by decide)
    obtain ⟨b7, g7⟩ : ∃ z, z = h6.size := ⟨_, rfl⟩
    rw [← g7] at A7 B7 st7
    have K7 := K6.ext E7
    have O7 := O6.ext E7
    have V7 : Arv Z h7 b7 k7 .char (0 : Int32) [] (.int 0) := Arv.new A7 (by decide)
    have f9 := (A6.ext E7)
    have f10 := (F6_value.ext E7)
    have f11 := (F6_coder.ext E7)
    obtain ⟨_, _, ⟨T12, L12, k12, n12⟩, -, X12, h212, hg12, ⟨Lc12, hQ12, l12, y12, z12⟩, st12⟩ := X7.specialBackS hx (y := (⟨"java/lang/String", "<init>", "([C)V"⟩ : MethodName)) rfl hown (mvT hZ (W hw 4 rfl)) (mvT hZ (W hw 5 rfl)) (mvT hZ (W hw 6 rfl)) (by decide) (own_backOfSH (s := s) (vm0 := s.vm) (W := 1) (rm1 l Z a0 hw [] b6 b7 k7 h7 n0 O7 V7 f9 f10 g_b6 f11) hZ (W hw 6 rfl) (W hw 2 rfl) (by decide) (by decide) (own_EW hw) (own_CH.keep K7 hCH)) (g := (mkF m 45 #[vi p1, vi p2, vi p3, vi ln, vi ca, vi cb, vi cc, .unset, .unset, .unset, .unset, .unset, .unset, .unset] [(.ref b7), (.ref b6), (.ref b6)])) rfl (by rw [hml]; rfl) (Steps.refl _) (a := b6) (argsL := [(.ref b7)]) (rest := [(.ref b6)]) (lenOf pd_2 rfl) rfl (by show 2 * 0 + _ ≤ _; exact Nat.le_of_eq rfl) (hb hby at_45) (fun _ _ => ⟨rfl, e7, (by decide : 2 + 4 ≤ _), (by decide : 4 + 8 ≤ _)⟩)
    dsimp only [Pt.U, Pt.locs, Pt.cells, Pt.slots] at X12 l12 y12 z12 st12 hQ12 h212 hg12
    subst l12 y12 z12
    obtain ⟨X12, hS12, hZ12, hown12⟩ := rebS (s := s) (vm0 := s.vm) hS0 (show _ ≤ T7.heap.size from (by rw [e7]; exact (Nat.le_trans (Nat.le_trans (Nat.zero_le _) E6.1) E7.1))) X12 h212 hg12 hZ hown
    obtain ⟨o13, k14, rfl, Nq12, K12, P12_0, P12_1, P12_2, P12_3⟩ := hQ12
    have N12 := Fr.app N0 Nq12
    have O12 := O7.keep K12 (allS g_b6 all0)
    have VX15 : Arv Z T12.heap o13 k14 .byte ln (own_bs (own_fl [])) (.int (0 : Int32)) := by rw [hk]; exact Arv.pad P12_3 (own_bs_of [] (by simp))
    obtain ⟨T16, Lc16, X16, Nq16, hQ16⟩ := sg0_135_157 hw p1 p2 p3 ln ca cb cc b6 cs4 o13 k14 ln (own_fl []) T12.heap n0 O12 S_cs hcs P12_0 P12_1 VX15 P12_2 (own_lnb hkk).2.2 (own_lnb hkk).1 (own_lnb hkk).2.1 (own_L p3 ln hkk).2.2.2.2.2 T_tab (own_L p3 ln hkk).2.2.2.1 (own_L p3 ln hkk).2.2.2.2.1 (own_L p3 ln hkk).2.2.1 (own_L p3 ln hkk).1 (own_L p3 ln hkk).2.1 X12 hx hZ12 hby hml hown12 rfl N12 (by decide) (by decide) (by decide) (by decide)
    obtain ⟨b17, b18, k19, K16, sq16_b17, sq16_b18, P16_0, P16_1, P16_2, P16_3, P16_4, P16_5, st16⟩ := hQ16
    have O16 := O12.keep K16 all0
    have pre27 : ∀ t, Steps p.tables e below (T16.setTop (mkF m 158 #[vi p1, vi p2, vi p3, vi ln, vi ca, vi cb, vi cc, vr b6, vr b17, .val (.long (own_absJ (p3.toInt64))), .second, .unset, .unset, .unset] [(.int p3)])) t → Steps p.tables e below (s₁.setTop (entryFrame m #[(.int p1), (.int p2), (.int p3)] maxLocals)) t := fun t kt => pre5 t (by
      show Steps p.tables e below (s₁.setTop (mkF m 34 #[vi p1, vi p2, vi p3, vi ln, vi ca, vi cb, vi cc, .unset, .unset, .unset, .unset, .unset, .unset, .unset] [])) _
      refine XS.iloadN X0.here hx rfl (hb hby at_34) rfl ?_
      refine XS.ifNo X0.here hx rfl (hb hby at_35) rfl ((if0 _ _).trans (teq (hk : ln = (0 : Int32))).2) ?_
      refine st6 _ ?_
      refine XS.dup X6.here hx rfl (hb hby at_41) rfl rfl ?_
      refine XS.iconst X6.here hx rfl (hb hby at_42) ?_
      refine st7 _ ?_
      refine st12.trans ?_
      refine XS.astore X12.here hx rfl (hb hby at_48) rfl rfl (l' := #[vi p1, vi p2, vi p3, vi ln, vi ca, vi cb, vi cc, vr b6, .unset, .unset, .unset, .unset, .unset, .unset]) rfl ?_
      refine XS.goto X12.here hx rfl (pc0 := 50) (pc' := 135) rfl (hb hby at_50) (by decide) (by decide) ?_
      refine st16 _ ?_
      show Steps p.tables e below (T16.setTop (mkF m 157 #[vi p1, vi p2, vi p3, vi ln, vi ca, vi cb, vi cc, vr b6, vr b17, .val (.long (own_absJ (p3.toInt64))), .second, .unset, .unset, .unset] [])) _
      refine XS.iloadN X16.here hx rfl (hb hby at_157) rfl ?_
      exact kt)
    have pre28 : ∀ t, Steps p.tables e below (T16.setTop (mkF m 166 #[vi p1, vi p2, vi p3, vi ln, vi ca, vi cb, vi cc, vr b6, vr b17, .val (.long (own_absJ (p3.toInt64))), .second, .unset, .unset, .unset] [(.int (own_sl p3 (0 : Int32) (1 : Int32) (0 : Int32)))])) t → Steps p.tables e below (s₁.setTop (entryFrame m #[(.int p1), (.int p2), (.int p3)] maxLocals)) t := fun t kt => pre27 t (by
      by_cases hd_ : p3 < (0 : Int32)
      · show Steps p.tables e below (T16.setTop (mkF m 158 #[vi p1, vi p2, vi p3, vi ln, vi ca, vi cb, vi cc, vr b6, vr b17, .val (.long (own_absJ (p3.toInt64))), .second, .unset, .unset, .unset] [(.int p3)])) _
        refine XS.ifNo X16.here hx rfl (hb hby at_158) rfl ((if0 _ _).trans (tlt (hd_ : p3 < (0 : Int32))).2.1) ?_
        refine XS.iconst X16.here hx rfl (hb hby at_161) ?_
        refine XS.goto X16.here hx rfl (pc0 := 162) (pc' := 166) rfl (hb hby at_162) (by decide) (by decide) ?_
        rw [show (own_sl p3 (0 : Int32) (1 : Int32) (0 : Int32)) = (1 : Int32) from if_pos hd_] at kt
        exact kt
      · show Steps p.tables e below (T16.setTop (mkF m 158 #[vi p1, vi p2, vi p3, vi ln, vi ca, vi cb, vi cc, vr b6, vr b17, .val (.long (own_absJ (p3.toInt64))), .second, .unset, .unset, .unset] [(.int p3)])) _
        refine XS.ifYes X16.here hx rfl (pc0 := 158) (pc' := 165) rfl (hb hby at_158) rfl ((if0 _ _).trans (flt (hd_ : ¬ (p3 < (0 : Int32)))).2.1) (by decide) (by decide) ?_
        refine XS.iconst X16.here hx rfl (hb hby at_165) ?_
        rw [show (own_sl p3 (0 : Int32) (1 : Int32) (0 : Int32)) = (0 : Int32) from if_neg hd_] at kt
        exact kt)
    have pre29 : ∀ t, Steps p.tables e below (T16.setTop (mkF m 168 #[vi p1, vi p2, vi p3, vi ln, vi ca, vi cb, vi cc, vr b6, vr b17, .val (.long (own_absJ (p3.toInt64))), .second, vi (own_sl p3 (0 : Int32) (1 : Int32) (0 : Int32)), .unset, .unset] [])) t → Steps p.tables e below (s₁.setTop (entryFrame m #[(.int p1), (.int p2), (.int p3)] maxLocals)) t := fun t kt => pre28 t (by
      show Steps p.tables e below (T16.setTop (mkF m 166 #[vi p1, vi p2, vi p3, vi ln, vi ca, vi cb, vi cc, vr b6, vr b17, .val (.long (own_absJ (p3.toInt64))), .second, .unset, .unset, .unset] [(.int (own_sl p3 (0 : Int32) (1 : Int32) (0 : Int32)))])) _
      refine XS.istore X16.here hx rfl (hb hby at_166) rfl (l' := #[vi p1, vi p2, vi p3, vi ln, vi ca, vi cb, vi cc, vr b6, vr b17, .val (.long (own_absJ (p3.toInt64))), .second, vi (own_sl p3 (0 : Int32) (1 : Int32) (0 : Int32)), .unset, .unset]) rfl ?_
      exact kt)
    obtain ⟨T30, Lc30, X30, Nq30, hQ30⟩ := sg0_168_522 hw p1 p2 p3 ln ca cb cc b6 b17 (own_absJ (p3.toInt64)) (own_sl p3 (0 : Int32) (1 : Int32) (0 : Int32)) b18 k19 (ln + (own_ss p3)) (own_gc p3 (ln + (own_ss p3)) (own_cut ln (own_fl []))) cs4 T16.heap n0 O16 P16_1 P16_3 P16_5 S_cs hcs P16_2 (own_totG p3 ln hkk) T_SF (own_main hkk (by rw [hk]; refine ⟨fun h => ?_, fun h => ?_, fun h => ?_⟩ <;> first | rfl | exact absurd h (by decide)) h0_ca h1_ca h0_cb h1_cb h0_cc h1_cc) X16 hx hZ12 hby hml hown12 rfl Nq16 (by decide) (by decide) (by decide) (by decide)
    obtain ⟨K30, st30⟩ := hQ30
    obtain ⟨fs, hr, hrun, hended, hREW⟩ := X30.leaveW (s := s) hS12 (Nat.le_trans (Nat.le_trans (Nat.le_refl _) K16.1) K30.1) (v := some (.int 1)) (fun h => by rw [Bd.returns] at h; cases h)
    refine ⟨_, _, pre29 _ ?_, hrun, hended, _, _, rfl, ?_, hREW.1, hREW.2.1, hREW.2.2.1, hREW.2.2.2.mono (by decide) (by decide)⟩
    · show Steps p.tables e below (T16.setTop (mkF m 168 #[vi p1, vi p2, vi p3, vi ln, vi ca, vi cb, vi cc, vr b6, vr b17, .val (.long (own_absJ (p3.toInt64))), .second, vi (own_sl p3 (0 : Int32) (1 : Int32) (0 : Int32)), .unset, .unset] [])) _
      refine st30 _ ?_
      exact retN X30 hx (t := .boolean) Bd.returns (by simp) (hb hby at_522) hr
    · show Qrm0 Z p1 p2 p3 cs4 h0 n0 _ T30.heap _
      exact ⟨rfl, Nq30⟩
  · obtain ⟨T31, h31, X31, e31, E31, A31, D31, U31, st31⟩ := newO X0 hx hZ hown (W hw 0 rfl) (W hw 1 rfl) (W hw 2 rfl) e0 (g := (mkF m 58 #[vi p1, vi p2, vi p3, vi ln, vi ca, vi cb, vi cc, .unset, .unset, .unset, .unset, .unset, .unset, .unset] [])) rfl (hb hby at_58) (by decide) (by decide)
    obtain ⟨b31, g31⟩ : ∃ z, z = h0.size := ⟨_, rfl⟩
    rw [← g31] at A31 D31 U31 st31
    have g_b31 := own_born O0 (own_eqle g31)
    have O31 := O0.ext E31
    have F31_coder : Fld Z h31 b31 "java/lang/String" "coder" "B" (.int 0) := D31 (Or.inr (W hw 27 rfl)) (ty := .byte) (by decide)
    have F31_value : Fld Z h31 b31 "java/lang/String" "value" "[B" .null := D31 (Or.inr (W hw 29 rfl)) (ty := (.array .byte)) (by decide)
    obtain ⟨T32, h32, k32, X32, e32, E32, A32, B32, st32⟩ := newPE X31 hx hZ (W hw 3 rfl) e31 (g := (mkF m 63 #[vi p1, vi p2, vi p3, vi ln, vi ca, vi cb, vi cc, .unset, .unset, .unset, .unset, .unset, .unset, .unset] [(.int 1), (.ref b31), (.ref b31)])) rfl (hb hby at_63) rfl (by decide) (cap := 1) (by decide) (by decide) (by decide) (by decide) (ad := "[C") (by decide)
    obtain ⟨b32, g32⟩ : ∃ z, z = h31.size := ⟨_, rfl⟩
    rw [← g32] at A32 B32 st32
    have ne33 := (own_ltn A31.lt (own_eqle g32))
    have g_b32 := own_born O31 (own_eqle g32)
    have O32 := O31.ext E32
    have V32 : Arv Z h32 b32 k32 .char (1 : Int32) [] (.int 0) := Arv.new A32 (by decide)
    have V34 : Arv Z h32 b32 k32 .char (1 : Int32) [(.int 0)] (.int 0) := V32.pad (pad_rep [] (.int 0) 1)
    obtain ⟨cl35, Ar35, q35, S35, M35, Hs35, G35⟩ := id V34
    have hin35 : ¬ ((0 : Int32) < 0 ∨ cl35.slots.size ≤ ((0 : Int32)).toNatClampNeg) := inb_of S35 ⟨by decide, by decide⟩
    obtain ⟨T36, h36, X36, e36, W36, st36⟩ := stC X32 hx hZ e32 Ar35 (j := (0 : Int32)) hin35 (g := (mkF m 69 #[vi p1, vi p2, vi p3, vi ln, vi ca, vi cb, vi cc, .unset, .unset, .unset, .unset, .unset, .unset, .unset] [(.int ca), (.int 0), (.ref b32), (.ref b32), (.ref b31), (.ref b31)])) rfl rfl (hb hby at_69)
    have O36 := O32.wr W36 g_b32
    have N36 := Fr.snoc X36 N0 g_b32
    have Vw36 : Arv Z h36 b32 k32 .char (1 : Int32) [(.int (nar .char ca))] (.int 0) := Arv.set Ar35 q35 S35 M35 Hs35 G35 (fits_nar_char _) W36 0 rfl (Nat.le_of_ble_eq_true rfl)
    have f37 := ((A31.ext E32).wr W36)
    have f38 := ((F31_coder.ext E32).other W36 (Or.inl ne33))
    have f39 := ((F31_value.ext E32).other W36 (Or.inl ne33))
    obtain ⟨_, T40, L40, X40, hQ40, st40⟩ := cI X36 hx hZ hown (W hw 4 rfl) (W hw 5 rfl) (W hw 6 rfl) (W hw 2 rfl) rfl (by decide) (rm1_1 l Z a0 hw [] b31 b32 k32 (nar .char ca) cs4 h36 n0 O36 Vw36 S_cs hcs (own_c1 ca h0_ca h1_ca) f37 f38 g_b31 f39) e36 #[vi p1, vi p2, vi p3, vi ln, vi ca, vi cb, vi cc, .unset, .unset, .unset, .unset, .unset, .unset, .unset] [(.ref b31)] (by rw [hml]; rfl) (hb hby at_70) pd_2 rfl (W := 1) (Nat.le_of_eq rfl) (by decide) (by decide) (by decide) (by decide)
    obtain ⟨b41, k42, rfl, Nq40, K40, sq40_b41, P40_0, P40_1, P40_2, P40_3, P40_4⟩ := hQ40
    have N40 := Fr.app N36 Nq40
    have O40 := O36.keep K40 (allS g_b31 all0)
    have VX46 : Arv Z T40.heap b41 k42 .byte ln (own_bs (own_fl [(nar .byte ((nar .char ca).toInt8.toInt32))])) (.int 0) := by rw [hk]; exact Arv.pad P40_4 (own_bs_of [(nar .byte ((nar .char ca).toInt8.toInt32))] (by simp))
    obtain ⟨T47, Lc47, X47, Nq47, hQ47⟩ := sg0_135_157 hw p1 p2 p3 ln ca cb cc b31 cs4 b41 k42 ln (own_fl [(nar .byte ((nar .char ca).toInt8.toInt32))]) T40.heap n0 O40 S_cs hcs P40_0 P40_2 VX46 P40_1 (own_lnb hkk).2.2 (own_lnb hkk).1 (own_lnb hkk).2.1 (own_L p3 ln hkk).2.2.2.2.2 T_tab (own_L p3 ln hkk).2.2.2.1 (own_L p3 ln hkk).2.2.2.2.1 (own_L p3 ln hkk).2.2.1 (own_L p3 ln hkk).1 (own_L p3 ln hkk).2.1 X40 hx hZ hby hml hown rfl N40 (by decide) (by decide) (by decide) (by decide)
    obtain ⟨b48, b49, k50, K47, sq47_b48, sq47_b49, P47_0, P47_1, P47_2, P47_3, P47_4, P47_5, st47⟩ := hQ47
    have O47 := O40.keep K47 all0
    have pre58 : ∀ t, Steps p.tables e below (T47.setTop (mkF m 158 #[vi p1, vi p2, vi p3, vi ln, vi ca, vi cb, vi cc, vr b31, vr b48, .val (.long (own_absJ (p3.toInt64))), .second, .unset, .unset, .unset] [(.int p3)])) t → Steps p.tables e below (s₁.setTop (entryFrame m #[(.int p1), (.int p2), (.int p3)] maxLocals)) t := fun t kt => pre5 t (by
      show Steps p.tables e below (s₁.setTop (mkF m 34 #[vi p1, vi p2, vi p3, vi ln, vi ca, vi cb, vi cc, .unset, .unset, .unset, .unset, .unset, .unset, .unset] [])) _
      refine XS.iloadN X0.here hx rfl (hb hby at_34) rfl ?_
      refine XS.ifYes X0.here hx rfl (pc0 := 35) (pc' := 53) rfl (hb hby at_35) rfl ((if0 _ _).trans (feq ((by rw [hk]; decide) : ¬ (ln = (0 : Int32)))).2) (by decide) (by decide) ?_
      refine XS.iloadN X0.here hx rfl (hb hby at_53) rfl ?_
      refine XS.iconst X0.here hx rfl (hb hby at_54) ?_
      refine XS.icmpNo X0.here hx rfl (hb hby at_55) rfl (teq (hk : ln = (1 : Int32))).2 ?_
      refine st31 _ ?_
      refine XS.dup X31.here hx rfl (hb hby at_61) rfl rfl ?_
      refine XS.iconst X31.here hx rfl (hb hby at_62) ?_
      refine st32 _ ?_
      refine XS.dup X32.here hx rfl (hb hby at_65) rfl rfl ?_
      show Steps p.tables e below (T32.setTop (mkF m 66 #[vi p1, vi p2, vi p3, vi ln, vi ca, vi cb, vi cc, .unset, .unset, .unset, .unset, .unset, .unset, .unset] [(.ref b32), (.ref b32), (.ref b31), (.ref b31)])) _
      refine XS.iconst X32.here hx rfl (hb hby at_66) ?_
      refine XS.iload X32.here hx rfl (hb hby at_67) rfl ?_
      refine st36 _ ?_
      refine st40 _ ?_
      refine XS.astore X40.here hx rfl (hb hby at_73) rfl rfl (l' := #[vi p1, vi p2, vi p3, vi ln, vi ca, vi cb, vi cc, vr b31, .unset, .unset, .unset, .unset, .unset, .unset]) rfl ?_
      refine XS.goto X40.here hx rfl (pc0 := 75) (pc' := 135) rfl (hb hby at_75) (by decide) (by decide) ?_
      refine st47 _ ?_
      refine XS.iloadN X47.here hx rfl (hb hby at_157) rfl ?_
      exact kt)
    have pre59 : ∀ t, Steps p.tables e below (T47.setTop (mkF m 166 #[vi p1, vi p2, vi p3, vi ln, vi ca, vi cb, vi cc, vr b31, vr b48, .val (.long (own_absJ (p3.toInt64))), .second, .unset, .unset, .unset] [(.int (own_sl p3 (0 : Int32) (1 : Int32) (0 : Int32)))])) t → Steps p.tables e below (s₁.setTop (entryFrame m #[(.int p1), (.int p2), (.int p3)] maxLocals)) t := fun t kt => pre58 t (by
      by_cases hd_ : p3 < (0 : Int32)
      · show Steps p.tables e below (T47.setTop (mkF m 158 #[vi p1, vi p2, vi p3, vi ln, vi ca, vi cb, vi cc, vr b31, vr b48, .val (.long (own_absJ (p3.toInt64))), .second, .unset, .unset, .unset] [(.int p3)])) _
        refine XS.ifNo X47.here hx rfl (hb hby at_158) rfl ((if0 _ _).trans (tlt (hd_ : p3 < (0 : Int32))).2.1) ?_
        refine XS.iconst X47.here hx rfl (hb hby at_161) ?_
        refine XS.goto X47.here hx rfl (pc0 := 162) (pc' := 166) rfl (hb hby at_162) (by decide) (by decide) ?_
        rw [show (own_sl p3 (0 : Int32) (1 : Int32) (0 : Int32)) = (1 : Int32) from if_pos hd_] at kt
        exact kt
      · show Steps p.tables e below (T47.setTop (mkF m 158 #[vi p1, vi p2, vi p3, vi ln, vi ca, vi cb, vi cc, vr b31, vr b48, .val (.long (own_absJ (p3.toInt64))), .second, .unset, .unset, .unset] [(.int p3)])) _
        refine XS.ifYes X47.here hx rfl (pc0 := 158) (pc' := 165) rfl (hb hby at_158) rfl ((if0 _ _).trans (flt (hd_ : ¬ (p3 < (0 : Int32)))).2.1) (by decide) (by decide) ?_
        refine XS.iconst X47.here hx rfl (hb hby at_165) ?_
        rw [show (own_sl p3 (0 : Int32) (1 : Int32) (0 : Int32)) = (0 : Int32) from if_neg hd_] at kt
        exact kt)
    have pre60 : ∀ t, Steps p.tables e below (T47.setTop (mkF m 168 #[vi p1, vi p2, vi p3, vi ln, vi ca, vi cb, vi cc, vr b31, vr b48, .val (.long (own_absJ (p3.toInt64))), .second, vi (own_sl p3 (0 : Int32) (1 : Int32) (0 : Int32)), .unset, .unset] [])) t → Steps p.tables e below (s₁.setTop (entryFrame m #[(.int p1), (.int p2), (.int p3)] maxLocals)) t := fun t kt => pre59 t (by
      show Steps p.tables e below (T47.setTop (mkF m 166 #[vi p1, vi p2, vi p3, vi ln, vi ca, vi cb, vi cc, vr b31, vr b48, .val (.long (own_absJ (p3.toInt64))), .second, .unset, .unset, .unset] [(.int (own_sl p3 (0 : Int32) (1 : Int32) (0 : Int32)))])) _
      refine XS.istore X47.here hx rfl (hb hby at_166) rfl (l' := #[vi p1, vi p2, vi p3, vi ln, vi ca, vi cb, vi cc, vr b31, vr b48, .val (.long (own_absJ (p3.toInt64))), .second, vi (own_sl p3 (0 : Int32) (1 : Int32) (0 : Int32)), .unset, .unset]) rfl ?_
      exact kt)
    obtain ⟨T61, Lc61, X61, Nq61, hQ61⟩ := sg0_168_522 hw p1 p2 p3 ln ca cb cc b31 b48 (own_absJ (p3.toInt64)) (own_sl p3 (0 : Int32) (1 : Int32) (0 : Int32)) b49 k50 (ln + (own_ss p3)) (own_gc p3 (ln + (own_ss p3)) (own_cut ln (own_fl [(nar .byte ((nar .char ca).toInt8.toInt32))]))) cs4 T47.heap n0 O47 P47_1 P47_3 P47_5 S_cs hcs P47_2 (own_totG p3 ln hkk) T_SF (own_main hkk (by rw [hk]; refine ⟨fun h => ?_, fun h => ?_, fun h => ?_⟩ <;> first | rfl | exact absurd h (by decide)) h0_ca h1_ca h0_cb h1_cb h0_cc h1_cc) X47 hx hZ hby hml hown rfl Nq47 (by decide) (by decide) (by decide) (by decide)
    obtain ⟨K61, st61⟩ := hQ61
    obtain ⟨fs, hr, hrun, hended, hW, hsame⟩ := X61.leave (v := some (.int 1)) (fun h => by rw [Bd.returns] at h; cases h)
    refine ⟨_, _, pre60 _ ?_, hrun, hended, _, _, rfl, ?_, ReturnedEndW.of_narrow ⟨_, rfl⟩ hW (hsame.mono (by decide) (by decide))⟩
    · show Steps p.tables e below (T47.setTop (mkF m 168 #[vi p1, vi p2, vi p3, vi ln, vi ca, vi cb, vi cc, vr b31, vr b48, .val (.long (own_absJ (p3.toInt64))), .second, vi (own_sl p3 (0 : Int32) (1 : Int32) (0 : Int32)), .unset, .unset] [])) _
      refine st61 _ ?_
      exact retN X61 hx (t := .boolean) Bd.returns (by simp) (hb hby at_522) hr
    · show Qrm0 Z p1 p2 p3 cs4 h0 n0 _ T61.heap _
      exact ⟨rfl, Nq61⟩
  · obtain ⟨T62, h62, X62, e62, E62, A62, D62, U62, st62⟩ := newO X0 hx hZ hown (W hw 0 rfl) (W hw 1 rfl) (W hw 2 rfl) e0 (g := (mkF m 83 #[vi p1, vi p2, vi p3, vi ln, vi ca, vi cb, vi cc, .unset, .unset, .unset, .unset, .unset, .unset, .unset] [])) rfl (hb hby at_83) (by decide) (by decide)
    obtain ⟨b62, g62⟩ : ∃ z, z = h0.size := ⟨_, rfl⟩
    rw [← g62] at A62 D62 U62 st62
    have g_b62 := own_born O0 (own_eqle g62)
    have O62 := O0.ext E62
    have F62_coder : Fld Z h62 b62 "java/lang/String" "coder" "B" (.int 0) := D62 (Or.inr (W hw 27 rfl)) (ty := .byte) (by decide)
    have F62_value : Fld Z h62 b62 "java/lang/String" "value" "[B" .null := D62 (Or.inr (W hw 29 rfl)) (ty := (.array .byte)) (by decide)
    obtain ⟨T63, h63, k63, X63, e63, E63, A63, B63, st63⟩ := newPE X62 hx hZ (W hw 3 rfl) e62 (g := (mkF m 88 #[vi p1, vi p2, vi p3, vi ln, vi ca, vi cb, vi cc, .unset, .unset, .unset, .unset, .unset, .unset, .unset] [(.int 2), (.ref b62), (.ref b62)])) rfl (hb hby at_88) rfl (by decide) (cap := 2) (by decide) (by decide) (by decide) (by decide) (ad := "[C") (by decide)
    obtain ⟨b63, g63⟩ : ∃ z, z = h62.size := ⟨_, rfl⟩
    rw [← g63] at A63 B63 st63
    have ne64 := (own_ltn A62.lt (own_eqle g63))
    have g_b63 := own_born O62 (own_eqle g63)
    have O63 := O62.ext E63
    have V63 : Arv Z h63 b63 k63 .char (2 : Int32) [] (.int 0) := Arv.new A63 (by decide)
    have V65 : Arv Z h63 b63 k63 .char (2 : Int32) [(.int 0)] (.int 0) := V63.pad (pad_rep [] (.int 0) 1)
    obtain ⟨cl66, Ar66, q66, S66, M66, Hs66, G66⟩ := id V65
    have hin66 : ¬ ((0 : Int32) < 0 ∨ cl66.slots.size ≤ ((0 : Int32)).toNatClampNeg) := inb_of S66 ⟨by decide, by decide⟩
    obtain ⟨T67, h67, X67, e67, W67, st67⟩ := stC X63 hx hZ e63 Ar66 (j := (0 : Int32)) hin66 (g := (mkF m 94 #[vi p1, vi p2, vi p3, vi ln, vi ca, vi cb, vi cc, .unset, .unset, .unset, .unset, .unset, .unset, .unset] [(.int ca), (.int 0), (.ref b63), (.ref b63), (.ref b62), (.ref b62)])) rfl rfl (hb hby at_94)
    have O67 := O63.wr W67 g_b63
    have N67 := Fr.snoc X67 N0 g_b63
    have Vw67 : Arv Z h67 b63 k63 .char (2 : Int32) [(.int (nar .char ca))] (.int 0) := Arv.set Ar66 q66 S66 M66 Hs66 G66 (fits_nar_char _) W67 0 rfl (Nat.le_of_ble_eq_true rfl)
    have V68 : Arv Z h67 b63 k63 .char (2 : Int32) [(.int (nar .char ca)), (.int 0)] (.int 0) := Vw67.pad (pad_rep [(.int (nar .char ca))] (.int 0) 1)
    obtain ⟨cl69, Ar69, q69, S69, M69, Hs69, G69⟩ := id V68
    have hin69 : ¬ ((1 : Int32) < 0 ∨ cl69.slots.size ≤ ((1 : Int32)).toNatClampNeg) := inb_of S69 ⟨by decide, by decide⟩
    obtain ⟨T70, h70, X70, e70, W70, st70⟩ := stC X67 hx hZ e67 Ar69 (j := (1 : Int32)) hin69 (g := (mkF m 99 #[vi p1, vi p2, vi p3, vi ln, vi ca, vi cb, vi cc, .unset, .unset, .unset, .unset, .unset, .unset, .unset] [(.int cb), (.int 1), (.ref b63), (.ref b63), (.ref b62), (.ref b62)])) rfl rfl (hb hby at_99)
    have O70 := O67.wr W70 g_b63
    have N70 := Fr.snoc X70 N67 g_b63
    have Vw70 : Arv Z h70 b63 k63 .char (2 : Int32) [(.int (nar .char ca)), (.int (nar .char cb))] (.int 0) := Arv.set Ar69 q69 S69 M69 Hs69 G69 (fits_nar_char _) W70 1 rfl (Nat.le_of_ble_eq_true rfl)
    have f71 := (((A62.ext E63).wr W67).wr W70)
    have f72 := (((F62_coder.ext E63).other W67 (Or.inl ne64)).other W70 (Or.inl ne64))
    have f73 := (((F62_value.ext E63).other W67 (Or.inl ne64)).other W70 (Or.inl ne64))
    obtain ⟨_, T74, L74, X74, hQ74, st74⟩ := cI X70 hx hZ hown (W hw 4 rfl) (W hw 5 rfl) (W hw 6 rfl) (W hw 2 rfl) rfl (by decide) (rm1_2 l Z a0 hw [] b62 b63 k63 (nar .char ca) (nar .char cb) cs4 h70 n0 O70 Vw70 S_cs hcs (own_c1 ca h0_ca h1_ca) (own_c1 cb h0_cb h1_cb) f71 f72 g_b62 f73) e70 #[vi p1, vi p2, vi p3, vi ln, vi ca, vi cb, vi cc, .unset, .unset, .unset, .unset, .unset, .unset, .unset] [(.ref b62)] (by rw [hml]; rfl) (hb hby at_100) pd_2 rfl (W := 1) (Nat.le_of_eq rfl) (by decide) (by decide) (by decide) (by decide)
    obtain ⟨b75, k76, rfl, Nq74, K74, sq74_b75, P74_0, P74_1, P74_2, P74_3, P74_4⟩ := hQ74
    have N74 := Fr.app N70 Nq74
    have O74 := O70.keep K74 (allS g_b62 all0)
    have VX80 : Arv Z T74.heap b75 k76 .byte ln (own_bs (own_fl [(nar .byte ((nar .char ca).toInt8.toInt32)), (nar .byte ((nar .char cb).toInt8.toInt32))])) (.int 0) := by rw [hk]; exact Arv.pad P74_4 (own_bs_of [(nar .byte ((nar .char ca).toInt8.toInt32)), (nar .byte ((nar .char cb).toInt8.toInt32))] (by simp))
    obtain ⟨T81, Lc81, X81, Nq81, hQ81⟩ := sg0_135_157 hw p1 p2 p3 ln ca cb cc b62 cs4 b75 k76 ln (own_fl [(nar .byte ((nar .char ca).toInt8.toInt32)), (nar .byte ((nar .char cb).toInt8.toInt32))]) T74.heap n0 O74 S_cs hcs P74_0 P74_2 VX80 P74_1 (own_lnb hkk).2.2 (own_lnb hkk).1 (own_lnb hkk).2.1 (own_L p3 ln hkk).2.2.2.2.2 T_tab (own_L p3 ln hkk).2.2.2.1 (own_L p3 ln hkk).2.2.2.2.1 (own_L p3 ln hkk).2.2.1 (own_L p3 ln hkk).1 (own_L p3 ln hkk).2.1 X74 hx hZ hby hml hown rfl N74 (by decide) (by decide) (by decide) (by decide)
    obtain ⟨b82, b83, k84, K81, sq81_b82, sq81_b83, P81_0, P81_1, P81_2, P81_3, P81_4, P81_5, st81⟩ := hQ81
    have O81 := O74.keep K81 all0
    have pre92 : ∀ t, Steps p.tables e below (T81.setTop (mkF m 158 #[vi p1, vi p2, vi p3, vi ln, vi ca, vi cb, vi cc, vr b62, vr b82, .val (.long (own_absJ (p3.toInt64))), .second, .unset, .unset, .unset] [(.int p3)])) t → Steps p.tables e below (s₁.setTop (entryFrame m #[(.int p1), (.int p2), (.int p3)] maxLocals)) t := fun t kt => pre5 t (by
      show Steps p.tables e below (s₁.setTop (mkF m 34 #[vi p1, vi p2, vi p3, vi ln, vi ca, vi cb, vi cc, .unset, .unset, .unset, .unset, .unset, .unset, .unset] [])) _
      refine XS.iloadN X0.here hx rfl (hb hby at_34) rfl ?_
      refine XS.ifYes X0.here hx rfl (pc0 := 35) (pc' := 53) rfl (hb hby at_35) rfl ((if0 _ _).trans (feq ((by rw [hk]; decide) : ¬ (ln = (0 : Int32)))).2) (by decide) (by decide) ?_
      refine XS.iloadN X0.here hx rfl (hb hby at_53) rfl ?_
      refine XS.iconst X0.here hx rfl (hb hby at_54) ?_
      refine XS.icmpYes X0.here hx rfl (pc0 := 55) (pc' := 78) rfl (hb hby at_55) rfl (feq ((by rw [hk]; decide) : ¬ (ln = (1 : Int32)))).2 (by decide) (by decide) ?_
      refine XS.iloadN X0.here hx rfl (hb hby at_78) rfl ?_
      refine XS.iconst X0.here hx rfl (hb hby at_79) ?_
      refine XS.icmpNo X0.here hx rfl (hb hby at_80) rfl (teq (hk : ln = (2 : Int32))).2 ?_
      refine st62 _ ?_
      refine XS.dup X62.here hx rfl (hb hby at_86) rfl rfl ?_
      show Steps p.tables e below (T62.setTop (mkF m 87 #[vi p1, vi p2, vi p3, vi ln, vi ca, vi cb, vi cc, .unset, .unset, .unset, .unset, .unset, .unset, .unset] [(.ref b62), (.ref b62)])) _
      refine XS.iconst X62.here hx rfl (hb hby at_87) ?_
      refine st63 _ ?_
      refine XS.dup X63.here hx rfl (hb hby at_90) rfl rfl ?_
      refine XS.iconst X63.here hx rfl (hb hby at_91) ?_
      refine XS.iload X63.here hx rfl (hb hby at_92) rfl ?_
      refine st67 _ ?_
      refine XS.dup X67.here hx rfl (hb hby at_95) rfl rfl ?_
      refine XS.iconst X67.here hx rfl (hb hby at_96) ?_
      refine XS.iload X67.here hx rfl (hb hby at_97) rfl ?_
      refine st70 _ ?_
      show Steps p.tables e below (T70.setTop (mkF m 100 #[vi p1, vi p2, vi p3, vi ln, vi ca, vi cb, vi cc, .unset, .unset, .unset, .unset, .unset, .unset, .unset] [(.ref b63), (.ref b62), (.ref b62)])) _
      refine st74 _ ?_
      refine XS.astore X74.here hx rfl (hb hby at_103) rfl rfl (l' := #[vi p1, vi p2, vi p3, vi ln, vi ca, vi cb, vi cc, vr b62, .unset, .unset, .unset, .unset, .unset, .unset]) rfl ?_
      refine XS.goto X74.here hx rfl (pc0 := 105) (pc' := 135) rfl (hb hby at_105) (by decide) (by decide) ?_
      refine st81 _ ?_
      refine XS.iloadN X81.here hx rfl (hb hby at_157) rfl ?_
      exact kt)
    have pre93 : ∀ t, Steps p.tables e below (T81.setTop (mkF m 166 #[vi p1, vi p2, vi p3, vi ln, vi ca, vi cb, vi cc, vr b62, vr b82, .val (.long (own_absJ (p3.toInt64))), .second, .unset, .unset, .unset] [(.int (own_sl p3 (0 : Int32) (1 : Int32) (0 : Int32)))])) t → Steps p.tables e below (s₁.setTop (entryFrame m #[(.int p1), (.int p2), (.int p3)] maxLocals)) t := fun t kt => pre92 t (by
      by_cases hd_ : p3 < (0 : Int32)
      · show Steps p.tables e below (T81.setTop (mkF m 158 #[vi p1, vi p2, vi p3, vi ln, vi ca, vi cb, vi cc, vr b62, vr b82, .val (.long (own_absJ (p3.toInt64))), .second, .unset, .unset, .unset] [(.int p3)])) _
        refine XS.ifNo X81.here hx rfl (hb hby at_158) rfl ((if0 _ _).trans (tlt (hd_ : p3 < (0 : Int32))).2.1) ?_
        refine XS.iconst X81.here hx rfl (hb hby at_161) ?_
        refine XS.goto X81.here hx rfl (pc0 := 162) (pc' := 166) rfl (hb hby at_162) (by decide) (by decide) ?_
        rw [show (own_sl p3 (0 : Int32) (1 : Int32) (0 : Int32)) = (1 : Int32) from if_pos hd_] at kt
        exact kt
      · show Steps p.tables e below (T81.setTop (mkF m 158 #[vi p1, vi p2, vi p3, vi ln, vi ca, vi cb, vi cc, vr b62, vr b82, .val (.long (own_absJ (p3.toInt64))), .second, .unset, .unset, .unset] [(.int p3)])) _
        refine XS.ifYes X81.here hx rfl (pc0 := 158) (pc' := 165) rfl (hb hby at_158) rfl ((if0 _ _).trans (flt (hd_ : ¬ (p3 < (0 : Int32)))).2.1) (by decide) (by decide) ?_
        refine XS.iconst X81.here hx rfl (hb hby at_165) ?_
        rw [show (own_sl p3 (0 : Int32) (1 : Int32) (0 : Int32)) = (0 : Int32) from if_neg hd_] at kt
        exact kt)
    have pre94 : ∀ t, Steps p.tables e below (T81.setTop (mkF m 168 #[vi p1, vi p2, vi p3, vi ln, vi ca, vi cb, vi cc, vr b62, vr b82, .val (.long (own_absJ (p3.toInt64))), .second, vi (own_sl p3 (0 : Int32) (1 : Int32) (0 : Int32)), .unset, .unset] [])) t → Steps p.tables e below (s₁.setTop (entryFrame m #[(.int p1), (.int p2), (.int p3)] maxLocals)) t := fun t kt => pre93 t (by
      show Steps p.tables e below (T81.setTop (mkF m 166 #[vi p1, vi p2, vi p3, vi ln, vi ca, vi cb, vi cc, vr b62, vr b82, .val (.long (own_absJ (p3.toInt64))), .second, .unset, .unset, .unset] [(.int (own_sl p3 (0 : Int32) (1 : Int32) (0 : Int32)))])) _
      refine XS.istore X81.here hx rfl (hb hby at_166) rfl (l' := #[vi p1, vi p2, vi p3, vi ln, vi ca, vi cb, vi cc, vr b62, vr b82, .val (.long (own_absJ (p3.toInt64))), .second, vi (own_sl p3 (0 : Int32) (1 : Int32) (0 : Int32)), .unset, .unset]) rfl ?_
      exact kt)
    obtain ⟨T95, Lc95, X95, Nq95, hQ95⟩ := sg0_168_522 hw p1 p2 p3 ln ca cb cc b62 b82 (own_absJ (p3.toInt64)) (own_sl p3 (0 : Int32) (1 : Int32) (0 : Int32)) b83 k84 (ln + (own_ss p3)) (own_gc p3 (ln + (own_ss p3)) (own_cut ln (own_fl [(nar .byte ((nar .char ca).toInt8.toInt32)), (nar .byte ((nar .char cb).toInt8.toInt32))]))) cs4 T81.heap n0 O81 P81_1 P81_3 P81_5 S_cs hcs P81_2 (own_totG p3 ln hkk) T_SF (own_main hkk (by rw [hk]; refine ⟨fun h => ?_, fun h => ?_, fun h => ?_⟩ <;> first | rfl | exact absurd h (by decide)) h0_ca h1_ca h0_cb h1_cb h0_cc h1_cc) X81 hx hZ hby hml hown rfl Nq81 (by decide) (by decide) (by decide) (by decide)
    obtain ⟨K95, st95⟩ := hQ95
    obtain ⟨fs, hr, hrun, hended, hW, hsame⟩ := X95.leave (v := some (.int 1)) (fun h => by rw [Bd.returns] at h; cases h)
    refine ⟨_, _, pre94 _ ?_, hrun, hended, _, _, rfl, ?_, ReturnedEndW.of_narrow ⟨_, rfl⟩ hW (hsame.mono (by decide) (by decide))⟩
    · show Steps p.tables e below (T81.setTop (mkF m 168 #[vi p1, vi p2, vi p3, vi ln, vi ca, vi cb, vi cc, vr b62, vr b82, .val (.long (own_absJ (p3.toInt64))), .second, vi (own_sl p3 (0 : Int32) (1 : Int32) (0 : Int32)), .unset, .unset] [])) _
      refine st95 _ ?_
      exact retN X95 hx (t := .boolean) Bd.returns (by simp) (hb hby at_522) hr
    · show Qrm0 Z p1 p2 p3 cs4 h0 n0 _ T95.heap _
      exact ⟨rfl, Nq95⟩
  · obtain ⟨T96, h96, X96, e96, E96, A96, D96, U96, st96⟩ := newO X0 hx hZ hown (W hw 0 rfl) (W hw 1 rfl) (W hw 2 rfl) e0 (g := (mkF m 108 #[vi p1, vi p2, vi p3, vi ln, vi ca, vi cb, vi cc, .unset, .unset, .unset, .unset, .unset, .unset, .unset] [])) rfl (hb hby at_108) (by decide) (by decide)
    obtain ⟨b96, g96⟩ : ∃ z, z = h0.size := ⟨_, rfl⟩
    rw [← g96] at A96 D96 U96 st96
    have g_b96 := own_born O0 (own_eqle g96)
    have O96 := O0.ext E96
    have F96_coder : Fld Z h96 b96 "java/lang/String" "coder" "B" (.int 0) := D96 (Or.inr (W hw 27 rfl)) (ty := .byte) (by decide)
    have F96_value : Fld Z h96 b96 "java/lang/String" "value" "[B" .null := D96 (Or.inr (W hw 29 rfl)) (ty := (.array .byte)) (by decide)
    obtain ⟨T97, h97, k97, X97, e97, E97, A97, B97, st97⟩ := newPE X96 hx hZ (W hw 3 rfl) e96 (g := (mkF m 113 #[vi p1, vi p2, vi p3, vi ln, vi ca, vi cb, vi cc, .unset, .unset, .unset, .unset, .unset, .unset, .unset] [(.int 3), (.ref b96), (.ref b96)])) rfl (hb hby at_113) rfl (by decide) (cap := 3) (by decide) (by decide) (by decide) (by decide) (ad := "[C") (by decide)
    obtain ⟨b97, g97⟩ : ∃ z, z = h96.size := ⟨_, rfl⟩
    rw [← g97] at A97 B97 st97
    have ne98 := (own_ltn A96.lt (own_eqle g97))
    have g_b97 := own_born O96 (own_eqle g97)
    have O97 := O96.ext E97
    have V97 : Arv Z h97 b97 k97 .char (3 : Int32) [] (.int 0) := Arv.new A97 (by decide)
    have V99 : Arv Z h97 b97 k97 .char (3 : Int32) [(.int 0)] (.int 0) := V97.pad (pad_rep [] (.int 0) 1)
    obtain ⟨cl100, Ar100, q100, S100, M100, Hs100, G100⟩ := id V99
    have hin100 : ¬ ((0 : Int32) < 0 ∨ cl100.slots.size ≤ ((0 : Int32)).toNatClampNeg) := inb_of S100 ⟨by decide, by decide⟩
    obtain ⟨T101, h101, X101, e101, W101, st101⟩ := stC X97 hx hZ e97 Ar100 (j := (0 : Int32)) hin100 (g := (mkF m 119 #[vi p1, vi p2, vi p3, vi ln, vi ca, vi cb, vi cc, .unset, .unset, .unset, .unset, .unset, .unset, .unset] [(.int ca), (.int 0), (.ref b97), (.ref b97), (.ref b96), (.ref b96)])) rfl rfl (hb hby at_119)
    have O101 := O97.wr W101 g_b97
    have N101 := Fr.snoc X101 N0 g_b97
    have Vw101 : Arv Z h101 b97 k97 .char (3 : Int32) [(.int (nar .char ca))] (.int 0) := Arv.set Ar100 q100 S100 M100 Hs100 G100 (fits_nar_char _) W101 0 rfl (Nat.le_of_ble_eq_true rfl)
    have V102 : Arv Z h101 b97 k97 .char (3 : Int32) [(.int (nar .char ca)), (.int 0)] (.int 0) := Vw101.pad (pad_rep [(.int (nar .char ca))] (.int 0) 1)
    obtain ⟨cl103, Ar103, q103, S103, M103, Hs103, G103⟩ := id V102
    have hin103 : ¬ ((1 : Int32) < 0 ∨ cl103.slots.size ≤ ((1 : Int32)).toNatClampNeg) := inb_of S103 ⟨by decide, by decide⟩
    obtain ⟨T104, h104, X104, e104, W104, st104⟩ := stC X101 hx hZ e101 Ar103 (j := (1 : Int32)) hin103 (g := (mkF m 124 #[vi p1, vi p2, vi p3, vi ln, vi ca, vi cb, vi cc, .unset, .unset, .unset, .unset, .unset, .unset, .unset] [(.int cb), (.int 1), (.ref b97), (.ref b97), (.ref b96), (.ref b96)])) rfl rfl (hb hby at_124)
    have O104 := O101.wr W104 g_b97
    have N104 := Fr.snoc X104 N101 g_b97
    have Vw104 : Arv Z h104 b97 k97 .char (3 : Int32) [(.int (nar .char ca)), (.int (nar .char cb))] (.int 0) := Arv.set Ar103 q103 S103 M103 Hs103 G103 (fits_nar_char _) W104 1 rfl (Nat.le_of_ble_eq_true rfl)
    have V105 : Arv Z h104 b97 k97 .char (3 : Int32) [(.int (nar .char ca)), (.int (nar .char cb)), (.int 0)] (.int 0) := Vw104.pad (pad_rep [(.int (nar .char ca)), (.int (nar .char cb))] (.int 0) 1)
    obtain ⟨cl106, Ar106, q106, S106, M106, Hs106, G106⟩ := id V105
    have hin106 : ¬ ((2 : Int32) < 0 ∨ cl106.slots.size ≤ ((2 : Int32)).toNatClampNeg) := inb_of S106 ⟨by decide, by decide⟩
    obtain ⟨T107, h107, X107, e107, W107, st107⟩ := stC X104 hx hZ e104 Ar106 (j := (2 : Int32)) hin106 (g := (mkF m 129 #[vi p1, vi p2, vi p3, vi ln, vi ca, vi cb, vi cc, .unset, .unset, .unset, .unset, .unset, .unset, .unset] [(.int cc), (.int 2), (.ref b97), (.ref b97), (.ref b96), (.ref b96)])) rfl rfl (hb hby at_129)
    have O107 := O104.wr W107 g_b97
    have N107 := Fr.snoc X107 N104 g_b97
    have Vw107 : Arv Z h107 b97 k97 .char (3 : Int32) [(.int (nar .char ca)), (.int (nar .char cb)), (.int (nar .char cc))] (.int 0) := Arv.set Ar106 q106 S106 M106 Hs106 G106 (fits_nar_char _) W107 2 rfl (Nat.le_of_ble_eq_true rfl)
    have f108 := ((((A96.ext E97).wr W101).wr W104).wr W107)
    have f109 := ((((F96_coder.ext E97).other W101 (Or.inl ne98)).other W104 (Or.inl ne98)).other W107 (Or.inl ne98))
    have f110 := ((((F96_value.ext E97).other W101 (Or.inl ne98)).other W104 (Or.inl ne98)).other W107 (Or.inl ne98))
    obtain ⟨_, T111, L111, X111, hQ111, st111⟩ := cI X107 hx hZ hown (W hw 4 rfl) (W hw 5 rfl) (W hw 6 rfl) (W hw 2 rfl) rfl (by decide) (rm1_3 l Z a0 hw [] b96 b97 k97 (nar .char ca) (nar .char cb) (nar .char cc) cs4 h107 n0 O107 Vw107 S_cs hcs (own_c1 ca h0_ca h1_ca) (own_c1 cb h0_cb h1_cb) (own_c1 cc h0_cc h1_cc) f108 f109 g_b96 f110) e107 #[vi p1, vi p2, vi p3, vi ln, vi ca, vi cb, vi cc, .unset, .unset, .unset, .unset, .unset, .unset, .unset] [(.ref b96)] (by rw [hml]; rfl) (hb hby at_130) pd_2 rfl (W := 1) (Nat.le_of_eq rfl) (by decide) (by decide) (by decide) (by decide)
    obtain ⟨b112, k113, rfl, Nq111, K111, sq111_b112, P111_0, P111_1, P111_2, P111_3, P111_4⟩ := hQ111
    have N111 := Fr.app N107 Nq111
    have O111 := O107.keep K111 (allS g_b96 all0)
    have VX117 : Arv Z T111.heap b112 k113 .byte ln (own_bs (own_fl [(nar .byte ((nar .char ca).toInt8.toInt32)), (nar .byte ((nar .char cb).toInt8.toInt32)), (nar .byte ((nar .char cc).toInt8.toInt32))])) (.int 0) := by rw [hk]; exact Arv.pad P111_4 (own_bs_of [(nar .byte ((nar .char ca).toInt8.toInt32)), (nar .byte ((nar .char cb).toInt8.toInt32)), (nar .byte ((nar .char cc).toInt8.toInt32))] (by simp))
    obtain ⟨T118, Lc118, X118, Nq118, hQ118⟩ := sg0_135_157 hw p1 p2 p3 ln ca cb cc b96 cs4 b112 k113 ln (own_fl [(nar .byte ((nar .char ca).toInt8.toInt32)), (nar .byte ((nar .char cb).toInt8.toInt32)), (nar .byte ((nar .char cc).toInt8.toInt32))]) T111.heap n0 O111 S_cs hcs P111_0 P111_2 VX117 P111_1 (own_lnb hkk).2.2 (own_lnb hkk).1 (own_lnb hkk).2.1 (own_L p3 ln hkk).2.2.2.2.2 T_tab (own_L p3 ln hkk).2.2.2.1 (own_L p3 ln hkk).2.2.2.2.1 (own_L p3 ln hkk).2.2.1 (own_L p3 ln hkk).1 (own_L p3 ln hkk).2.1 X111 hx hZ hby hml hown rfl N111 (by decide) (by decide) (by decide) (by decide)
    obtain ⟨b119, b120, k121, K118, sq118_b119, sq118_b120, P118_0, P118_1, P118_2, P118_3, P118_4, P118_5, st118⟩ := hQ118
    have O118 := O111.keep K118 all0
    have pre129 : ∀ t, Steps p.tables e below (T118.setTop (mkF m 158 #[vi p1, vi p2, vi p3, vi ln, vi ca, vi cb, vi cc, vr b96, vr b119, .val (.long (own_absJ (p3.toInt64))), .second, .unset, .unset, .unset] [(.int p3)])) t → Steps p.tables e below (s₁.setTop (entryFrame m #[(.int p1), (.int p2), (.int p3)] maxLocals)) t := fun t kt => pre5 t (by
      show Steps p.tables e below (s₁.setTop (mkF m 34 #[vi p1, vi p2, vi p3, vi ln, vi ca, vi cb, vi cc, .unset, .unset, .unset, .unset, .unset, .unset, .unset] [])) _
      refine XS.iloadN X0.here hx rfl (hb hby at_34) rfl ?_
      refine XS.ifYes X0.here hx rfl (pc0 := 35) (pc' := 53) rfl (hb hby at_35) rfl ((if0 _ _).trans (feq ((by rw [hk]; decide) : ¬ (ln = (0 : Int32)))).2) (by decide) (by decide) ?_
      refine XS.iloadN X0.here hx rfl (hb hby at_53) rfl ?_
      refine XS.iconst X0.here hx rfl (hb hby at_54) ?_
      refine XS.icmpYes X0.here hx rfl (pc0 := 55) (pc' := 78) rfl (hb hby at_55) rfl (feq ((by rw [hk]; decide) : ¬ (ln = (1 : Int32)))).2 (by decide) (by decide) ?_
      refine XS.iloadN X0.here hx rfl (hb hby at_78) rfl ?_
      refine XS.iconst X0.here hx rfl (hb hby at_79) ?_
      refine XS.icmpYes X0.here hx rfl (pc0 := 80) (pc' := 108) rfl (hb hby at_80) rfl (feq ((by rw [hk]; decide) : ¬ (ln = (2 : Int32)))).2 (by decide) (by decide) ?_
      refine st96 _ ?_
      refine XS.dup X96.here hx rfl (hb hby at_111) rfl rfl ?_
      show Steps p.tables e below (T96.setTop (mkF m 112 #[vi p1, vi p2, vi p3, vi ln, vi ca, vi cb, vi cc, .unset, .unset, .unset, .unset, .unset, .unset, .unset] [(.ref b96), (.ref b96)])) _
      refine XS.iconst X96.here hx rfl (hb hby at_112) ?_
      refine st97 _ ?_
      refine XS.dup X97.here hx rfl (hb hby at_115) rfl rfl ?_
      refine XS.iconst X97.here hx rfl (hb hby at_116) ?_
      refine XS.iload X97.here hx rfl (hb hby at_117) rfl ?_
      refine st101 _ ?_
      refine XS.dup X101.here hx rfl (hb hby at_120) rfl rfl ?_
      refine XS.iconst X101.here hx rfl (hb hby at_121) ?_
      refine XS.iload X101.here hx rfl (hb hby at_122) rfl ?_
      refine st104 _ ?_
      show Steps p.tables e below (T104.setTop (mkF m 125 #[vi p1, vi p2, vi p3, vi ln, vi ca, vi cb, vi cc, .unset, .unset, .unset, .unset, .unset, .unset, .unset] [(.ref b97), (.ref b96), (.ref b96)])) _
      refine XS.dup X104.here hx rfl (hb hby at_125) rfl rfl ?_
      refine XS.iconst X104.here hx rfl (hb hby at_126) ?_
      refine XS.iload X104.here hx rfl (hb hby at_127) rfl ?_
      refine st107 _ ?_
      refine st111 _ ?_
      refine XS.astore X111.here hx rfl (hb hby at_133) rfl rfl (l' := #[vi p1, vi p2, vi p3, vi ln, vi ca, vi cb, vi cc, vr b96, .unset, .unset, .unset, .unset, .unset, .unset]) rfl ?_
      refine st118 _ ?_
      refine XS.iloadN X118.here hx rfl (hb hby at_157) rfl ?_
      exact kt)
    have pre130 : ∀ t, Steps p.tables e below (T118.setTop (mkF m 166 #[vi p1, vi p2, vi p3, vi ln, vi ca, vi cb, vi cc, vr b96, vr b119, .val (.long (own_absJ (p3.toInt64))), .second, .unset, .unset, .unset] [(.int (own_sl p3 (0 : Int32) (1 : Int32) (0 : Int32)))])) t → Steps p.tables e below (s₁.setTop (entryFrame m #[(.int p1), (.int p2), (.int p3)] maxLocals)) t := fun t kt => pre129 t (by
      by_cases hd_ : p3 < (0 : Int32)
      · show Steps p.tables e below (T118.setTop (mkF m 158 #[vi p1, vi p2, vi p3, vi ln, vi ca, vi cb, vi cc, vr b96, vr b119, .val (.long (own_absJ (p3.toInt64))), .second, .unset, .unset, .unset] [(.int p3)])) _
        refine XS.ifNo X118.here hx rfl (hb hby at_158) rfl ((if0 _ _).trans (tlt (hd_ : p3 < (0 : Int32))).2.1) ?_
        refine XS.iconst X118.here hx rfl (hb hby at_161) ?_
        refine XS.goto X118.here hx rfl (pc0 := 162) (pc' := 166) rfl (hb hby at_162) (by decide) (by decide) ?_
        rw [show (own_sl p3 (0 : Int32) (1 : Int32) (0 : Int32)) = (1 : Int32) from if_pos hd_] at kt
        exact kt
      · show Steps p.tables e below (T118.setTop (mkF m 158 #[vi p1, vi p2, vi p3, vi ln, vi ca, vi cb, vi cc, vr b96, vr b119, .val (.long (own_absJ (p3.toInt64))), .second, .unset, .unset, .unset] [(.int p3)])) _
        refine XS.ifYes X118.here hx rfl (pc0 := 158) (pc' := 165) rfl (hb hby at_158) rfl ((if0 _ _).trans (flt (hd_ : ¬ (p3 < (0 : Int32)))).2.1) (by decide) (by decide) ?_
        refine XS.iconst X118.here hx rfl (hb hby at_165) ?_
        rw [show (own_sl p3 (0 : Int32) (1 : Int32) (0 : Int32)) = (0 : Int32) from if_neg hd_] at kt
        exact kt)
    have pre131 : ∀ t, Steps p.tables e below (T118.setTop (mkF m 168 #[vi p1, vi p2, vi p3, vi ln, vi ca, vi cb, vi cc, vr b96, vr b119, .val (.long (own_absJ (p3.toInt64))), .second, vi (own_sl p3 (0 : Int32) (1 : Int32) (0 : Int32)), .unset, .unset] [])) t → Steps p.tables e below (s₁.setTop (entryFrame m #[(.int p1), (.int p2), (.int p3)] maxLocals)) t := fun t kt => pre130 t (by
      show Steps p.tables e below (T118.setTop (mkF m 166 #[vi p1, vi p2, vi p3, vi ln, vi ca, vi cb, vi cc, vr b96, vr b119, .val (.long (own_absJ (p3.toInt64))), .second, .unset, .unset, .unset] [(.int (own_sl p3 (0 : Int32) (1 : Int32) (0 : Int32)))])) _
      refine XS.istore X118.here hx rfl (hb hby at_166) rfl (l' := #[vi p1, vi p2, vi p3, vi ln, vi ca, vi cb, vi cc, vr b96, vr b119, .val (.long (own_absJ (p3.toInt64))), .second, vi (own_sl p3 (0 : Int32) (1 : Int32) (0 : Int32)), .unset, .unset]) rfl ?_
      exact kt)
    obtain ⟨T132, Lc132, X132, Nq132, hQ132⟩ := sg0_168_522 hw p1 p2 p3 ln ca cb cc b96 b119 (own_absJ (p3.toInt64)) (own_sl p3 (0 : Int32) (1 : Int32) (0 : Int32)) b120 k121 (ln + (own_ss p3)) (own_gc p3 (ln + (own_ss p3)) (own_cut ln (own_fl [(nar .byte ((nar .char ca).toInt8.toInt32)), (nar .byte ((nar .char cb).toInt8.toInt32)), (nar .byte ((nar .char cc).toInt8.toInt32))]))) cs4 T118.heap n0 O118 P118_1 P118_3 P118_5 S_cs hcs P118_2 (own_totG p3 ln hkk) T_SF (own_main hkk (by rw [hk]; refine ⟨fun h => ?_, fun h => ?_, fun h => ?_⟩ <;> first | rfl | exact absurd h (by decide)) h0_ca h1_ca h0_cb h1_cb h0_cc h1_cc) X118 hx hZ hby hml hown rfl Nq118 (by decide) (by decide) (by decide) (by decide)
    obtain ⟨K132, st132⟩ := hQ132
    obtain ⟨fs, hr, hrun, hended, hW, hsame⟩ := X132.leave (v := some (.int 1)) (fun h => by rw [Bd.returns] at h; cases h)
    refine ⟨_, _, pre131 _ ?_, hrun, hended, _, _, rfl, ?_, ReturnedEndW.of_narrow ⟨_, rfl⟩ hW (hsame.mono (by decide) (by decide))⟩
    · show Steps p.tables e below (T118.setTop (mkF m 168 #[vi p1, vi p2, vi p3, vi ln, vi ca, vi cb, vi cc, vr b96, vr b119, .val (.long (own_absJ (p3.toInt64))), .second, vi (own_sl p3 (0 : Int32) (1 : Int32) (0 : Int32)), .unset, .unset] [])) _
      refine st132 _ ?_
      exact retN X132 hx (t := .boolean) Bd.returns (by simp) (hb hby at_522) hr
    · show Qrm0 Z p1 p2 p3 cs4 h0 n0 _ T132.heap _
      exact ⟨rfl, Nq132⟩
set_option maxRecDepth 65536 in
set_option maxHeartbeats 40000000 in
theorem comes_1 {Post : Tables → Env → Array Value → State → Outcome → State → Prop} (hpost : ∀ tb e args s v u, (limb_1_1.after args s (.returned v) u = true ∧ limb_1_2.after args s (.returned v) u = true ∧ True) → ReturnedEndW s (.returned v) u (Jvm.fieldLocs frame_1_writes args s ++ Jvm.arrayLocs frame_1_arrays args s ++ Jvm.staticLocs frame_1_statics s) 48 1408 → Post tb e args s (.returned v) u) :
    ArmFor flags0 classFile x code maxLocals ret World_1 tables_1 room_1 Calls_1 rest_1 Pre_1 Post := by
  intro l hfl _ _ p e ha hc hk s m args below hf hA hF happ hP
  obtain ⟨hcalls, hrest, hpre⟩ := hP
  obtain ⟨-, -, -, hnamed, -, -, -, hat⟩ := (Spec.applies_iff hf).mp happ
  obtain ⟨hg, hn⟩ := and_e (Cond.before_iff.mp (show (Jvm.Cond.and given_1 narrow_1).before args s = true from hpre))
  obtain ⟨u0, u1⟩ := and_e hg
  obtain ⟨u2, u3⟩ := and_e u1
  obtain ⟨u4, u5⟩ := and_e u3
  obtain ⟨w0, w1, w2, rfl⟩ : ∃ w0 w1 w2 : Value, args = #[w0, w1, w2] := by
    have hs : args.size = 3 := by simpa [Cond.value, given_1] using u0
    obtain ⟨L⟩ := args
    match L, hs with
    | [w0, w1, w2], _ => exact ⟨w0, w1, w2, rfl⟩
  have hw := fun d (hd : d ∈ tables_1) => atoms_spec (ws := Jvm.Cond.code x code maxLocals ret :: tables_1) hat d (List.mem_cons_of_mem _ hd)
  have hfit : Fit s := fun {y c} hc i hi => by
    obtain ⟨ha, rfl⟩ := Array.getElem?_eq_some_iff.mp hc
    have q := List.all_eq_true.mp ((Array.all_eq_true_iff_forall_mem.mp hF) _ (Array.getElem_mem ha)) i (List.mem_range.mpr hi)
    simpa [Array.getElem?_eq_getElem hi] using q
  obtain ⟨hsets, hown0⟩ := atoms_of _ (rest_1_c_eq ▸ (show rest_1_c.before _ s = true from hrest))
  have hr0 := Cond.before_iff.mp hown0
  obtain ⟨i0, ei0⟩ := is_v u2
  obtain rfl : w0 = (.int i0) := Option.some.inj ei0
  obtain ⟨i1, ei1⟩ := is_v u4
  obtain rfl : w1 = (.int i1) := Option.some.inj ei1
  obtain ⟨i2, ei2⟩ := is_v u5
  obtain rfl : w2 = (.int i2) := Option.some.inj ei2
  obtain ⟨cs, evcs⟩ := is_v (Cond.before_iff.mp (hsets _ (List.mem_of_getElem? (i := 1) rfl)))
  have S_cs : Sta s s.heap "java/lang/String" "COMPACT_STRINGS" "Z" (.int cs) := Sta.start evcs (Or.inl (hsets _ (List.mem_of_getElem? (i := 0) rfl)))
  have hcs : ¬ cs = (0 : Int32) := gotF (Cond.eq_ints evcs (Term.int_eval 0)) (not_v (Cond.before_iff.mp (hsets _ (List.mem_of_getElem? (i := 2) rfl))))
  obtain ⟨vF, evF, rF⟩ := isR_v (Cond.before_iff.mp (hsets _ (List.mem_of_getElem? (i := 8) rfl)))
  have S_F : Sta s s.heap "jdk/internal/util/Preconditions" "SIOOBE_FORMATTER" "Ljava/util/function/BiFunction;" vF := Sta.start evF (Or.inl (hsets _ (List.mem_of_getElem? (i := 7) rfl)))
  have T_SF : own_SF s := ⟨vF, S_F, ref_cases rF⟩
  have T_tab : own_Tab s := Jvm.SetKit.digits_of hfit (W hw 19 rfl) (hsets _ (List.mem_of_getElem? (i := 9) rfl)) (hsets _ (List.mem_of_getElem? (i := 10) rfl)) (hsets _ (List.mem_of_getElem? (i := 12) rfl)) (hsets _ (List.mem_of_getElem? (i := 13) rfl)) (hsets _ (List.mem_of_getElem? (i := 14) rfl)) (hsets _ (List.mem_of_getElem? (i := 15) rfl)) (hsets _ (List.mem_of_getElem? (i := 17) rfl)) (hsets _ (List.mem_of_getElem? (i := 18) rfl)) (hsets _ (List.mem_of_getElem? (i := 19) rfl))
  have hCH0 : own_CH s own_EL s.heap.size s.vm s.heap := ⟨CHv.start (own_EW hw) (fun p hp => hcalls.1 p (own_sub p hp)) (hsets _ (List.mem_of_getElem? (i := 2) rfl)) (W hw 19 rfl) (W hw 1 rfl), fun x hx => Safe.new hx⟩
  obtain ⟨n, o, h1, h2, h3, _, L, rfl, ⟨rfl, N⟩, hq⟩ := rm0 l s _ hw tables_1 i0 i1 i2 cs s.heap s.heap.size (Old.start s) S_cs hcs T_tab T_SF p e ha hc hk s m _ below hf ((Spec.applies_iff_loose hf).mp happ).1 ⟨rfl, State.Warmed39.refl s, rfl, hCH0⟩ trivial
  refine ⟨n, _, h1, h2, h3, hpost _ _ _ _ _ _ ⟨Cond.after_iff.mpr rfl, Cond.after_iff.mpr (eq_i res_at (Term.int_eval (1)) rfl), trivial⟩ ⟨hq.1, hq.2.1, hq.2.2.1, (hq.2.2.2.sift fun y hy => Or.inr (N y hy)).mono (by decide) (by decide)⟩⟩
theorem main_1_1 : Claimed_1_1 := comes_1 fun _ _ _ _ _ _ h hF => ⟨h.1, hF⟩
theorem main_1_2 : Claimed_1_2 := comes_1 fun _ _ _ _ _ _ h hF => ⟨h.2.1, hF⟩
end Jvm.Pilot.@@N@@
namespace Jvm.Pilot.@@N@@
open Jvm Jvm.ClassFile Sem Op Lib Jvm.Free Jvm.Stand Jvm.Pilot.@@N@@.Jvm.D
/-! MADE BY PROGRAM (witnessworld.py) out of the Statement's table words and the real class files: 32 classes; the members and pool entries that the words name. The judged class is class 1, her method 1. -/
namespace start1
open Jvm.ClassFile
def u (s : String) : CpInfo := .utf8 (stringToUtf16 s)
/-- a pool by its gaps: so many unusable entries, then the entry; so many at the end -/
def gap : Nat → List CpInfo → List CpInfo
  | 0, r => r
  | n + 1, r => .unusable :: gap n r
def poolList (es : List (Nat × CpInfo)) (last : Nat) : List CpInfo := es.foldr (fun e r => gap e.1 (e.2 :: r)) (gap last [])
def pool (es : List (Nat × CpInfo)) (last : Nat) : Array CpInfo := ⟨poolList es last⟩
def fileOf (pool : Array CpInfo) (this : Nat) (attrs : Array Attribute := #[]) (ms : Array MethodInfo := #[]) (fl : Nat := 33) (sup : Nat := 0) (ifs : Array Nat := #[]) (fds : Array FieldInfo := #[]) : ClassFile where
  minorVersion := 0
  majorVersion := 65
  constantPool := pool
  accessFlags := fl
  thisClass := this
  superClass := sup
  interfaces := ifs
  fields := fds
  methods := ms
  attributes := attrs
def plain (name : String) (sup : Option ClassId) : Class where
  name := name
  kind := .ordinary
  loader := none
  accessFlags := 33
  super := sup
  interfaces := #[]
  cf := none
  fields := #[]
  methods := #[]
  instanceTypes := #[]
  staticTypes := #[]
  resolved := #[]
  callSites := []
  init := .initialized
  statics := none
  mirror := none

def pool0 : Array CpInfo := pool [(5, u "<init>"), (0, u "()V"), (1, .class_ 10), (1, u "java/lang/Object")] 113

def k0c0 : Code := { maxStack := 0, maxLocals := 1, code := object_method_1_code, exceptionTable := #[], attributes := #[] }
def k0m0 : Method := { name := "<init>", desc := "()V", sig := { parameters := [], returnType := none }, accessFlags := 1, code := some k0c0 }
/-- java/lang/Object -/
def k0 : Class := { plain "java/lang/Object" none with
  accessFlags := 33
  interfaces := #[]
  cf := some (fileOf pool0 8 #[] #[{ accessFlags := 1, nameIndex := 5, descriptorIndex := 6, attributes := #[] }] 33 0 #[] #[])
  fields := #[]
  methods := #[k0m0]
  instanceTypes := #[]
  staticTypes := #[]
  resolved := Array.replicate 124 none
  statics := none }

def pool1 : Array CpInfo := pool [(2, .class_ 4), (1, u "java/lang/Object"), (0, u "<init>"), (0, u "()V"), (0, .class_ 8), (0, u "java/lang/String"), (0, .methodref 7 10), (0, .nameAndType 5 11), (0, u "([C)V"), (0, .class_ 13), (0, u "com/example/tight_bound/tightbound/HeapObject"), (0, .methodref 12 15), (0, .nameAndType 5 16), (0, u "(Ljava/lang/String;I)V"), (0, .methodref 12 18), (0, .nameAndType 19 20), (0, u "toString"), (0, u "()Ljava/lang/String;"), (0, .methodref 22 23), (0, .class_ 24), (0, .nameAndType 25 26), (0, u "java/lang/Math"), (0, u "abs"), (0, u "(J)J"), (0, .methodref 28 29), (0, .class_ 30), (0, .nameAndType 31 32), (0, u "com/example/tight_bound/tightbound/HeapObjectToStringPinLaw"), (0, u "digits"), (0, u "(J)I"), (0, .methodref 7 34), (0, .nameAndType 35 36), (0, u "length"), (0, u "()I"), (0, .methodref 28 38), (0, .nameAndType 39 40), (0, u "at"), (0, u "(Ljava/lang/String;ICCCIIIJ)Z"), (0, .long 10), (1, .long 100), (1, .long 1000), (1, .long 10000), (1, .long 100000), (1, .long 1000000), (1, .long 10000000), (1, .long 100000000), (1, .long 1000000000), (1, .methodref 28 60), (0, .nameAndType 61 62), (0, u "pow10"), (0, u "(I)J"), (0, .long 48), (1, .methodref 7 66), (0, .nameAndType 67 68), (0, u "charAt"), (0, u "(I)C"), (0, .methodref 28 70), (0, .nameAndType 71 72), (0, u "expected"), (0, u "(ICCCIIIJ)C"), (2, u "law"), (0, u "(III)Z")] 3

def k1m0 : Method := { name := "<init>", desc := "()V", sig := { parameters := [], returnType := none }, accessFlags := 1, code := none }
def k1c1 : Code := { maxStack := 10, maxLocals := 14, code := code, exceptionTable := #[], attributes := #[] }
def k1m1 : Method := { name := "law", desc := "(III)Z", sig := { parameters := [.int, .int, .int], returnType := some .boolean }, accessFlags := 9, code := some k1c1 }
def k1c2 : Code := { maxStack := 4, maxLocals := 2, code := method_3_code, exceptionTable := #[], attributes := #[] }
def k1m2 : Method := { name := "digits", desc := "(J)I", sig := { parameters := [.long], returnType := some .int }, accessFlags := 10, code := some k1c2 }
def k1c3 : Code := { maxStack := 5, maxLocals := 2, code := method_4_code, exceptionTable := #[], attributes := #[] }
def k1m3 : Method := { name := "pow10", desc := "(I)J", sig := { parameters := [.int], returnType := some .long }, accessFlags := 10, code := some k1c3 }
def k1c4 : Code := { maxStack := 4, maxLocals := 12, code := method_5_code, exceptionTable := #[], attributes := #[] }
def k1m4 : Method := { name := "expected", desc := "(ICCCIIIJ)C", sig := { parameters := [.int, .char, .char, .char, .int, .int, .int, .long], returnType := some .char }, accessFlags := 10, code := some k1c4 }
def k1c5 : Code := { maxStack := 10, maxLocals := 10, code := method_6_code, exceptionTable := #[], attributes := #[] }
def k1m5 : Method := { name := "at", desc := "(Ljava/lang/String;ICCCIIIJ)Z", sig := { parameters := [(.object "java/lang/String"), .int, .char, .char, .char, .int, .int, .int, .long], returnType := some .boolean }, accessFlags := 10, code := some k1c5 }
/-- com/example/tight_bound/tightbound/HeapObjectToStringPinLaw -/
def k1 : Class := { plain "com/example/tight_bound/tightbound/HeapObjectToStringPinLaw" (some 0) with
  accessFlags := 49
  interfaces := #[]
  cf := some (fileOf pool1 28 #[] #[{ accessFlags := 1, nameIndex := 5, descriptorIndex := 6, attributes := #[] }, { accessFlags := 9, nameIndex := 75, descriptorIndex := 76, attributes := #[] }, { accessFlags := 10, nameIndex := 31, descriptorIndex := 32, attributes := #[] }, { accessFlags := 10, nameIndex := 61, descriptorIndex := 62, attributes := #[] }, { accessFlags := 10, nameIndex := 71, descriptorIndex := 72, attributes := #[] }, { accessFlags := 10, nameIndex := 39, descriptorIndex := 40, attributes := #[] }] 49 2 #[] #[])
  fields := #[]
  methods := #[k1m0, k1m1, k1m2, k1m3, k1m4, k1m5]
  instanceTypes := #[]
  staticTypes := #[]
  resolved := Array.replicate 80 none
  statics := none }

def pool2 : Array CpInfo := pool [(1, .class_ 2), (0, u "java/io/Serializable"), (0, .class_ 4), (0, u "java/lang/Object")] 2

/-- java/io/Serializable -/
def k2 : Class := { plain "java/io/Serializable" (some 0) with
  accessFlags := 1537
  interfaces := #[]
  cf := some (fileOf pool2 1 #[] #[] 1537 3 #[] #[])
  fields := #[]
  methods := #[]
  instanceTypes := #[]
  staticTypes := #[]
  resolved := Array.replicate 7 none
  statics := none }

def pool3 : Array CpInfo := pool [(1, .class_ 2), (0, u "java/lang/Comparable"), (0, .class_ 4), (0, u "java/lang/Object")] 7

/-- java/lang/Comparable -/
def k3 : Class := { plain "java/lang/Comparable" (some 0) with
  accessFlags := 1537
  interfaces := #[]
  cf := some (fileOf pool3 1 #[] #[] 1537 3 #[] #[])
  fields := #[]
  methods := #[]
  instanceTypes := #[]
  staticTypes := #[]
  resolved := Array.replicate 12 none
  statics := none }

def pool4 : Array CpInfo := pool [(2, .class_ 4), (1, u "java/lang/CharSequence"), (42, .class_ 48), (0, u "java/lang/CharSequence$1CodePointIterator"), (10, .class_ 60), (0, u "java/lang/CharSequence$1CharIterator"), (5, .class_ 67), (0, u "java/lang/Object")] 63

/-- java/lang/CharSequence -/
def k4 : Class := { plain "java/lang/CharSequence" (some 0) with
  accessFlags := 1537
  interfaces := #[]
  cf := some (fileOf pool4 2 #[.nestMembers #[47, 59]] #[] 1537 66 #[] #[])
  fields := #[]
  methods := #[]
  instanceTypes := #[]
  staticTypes := #[]
  resolved := Array.replicate 131 none
  statics := none }

def pool5 : Array CpInfo := pool [(1, .class_ 2), (0, u "java/lang/constant/Constable"), (0, .class_ 4), (0, u "java/lang/Object")] 6

/-- java/lang/constant/Constable -/
def k5 : Class := { plain "java/lang/constant/Constable" (some 0) with
  accessFlags := 1537
  interfaces := #[]
  cf := some (fileOf pool5 1 #[] #[] 1537 3 #[] #[])
  fields := #[]
  methods := #[]
  instanceTypes := #[]
  staticTypes := #[]
  resolved := Array.replicate 11 none
  statics := none }

def pool6 : Array CpInfo := pool [(1, .class_ 2), (0, u "java/lang/constant/ConstantDesc"), (0, .class_ 4), (0, u "java/lang/Object")] 32

/-- java/lang/constant/ConstantDesc -/
def k6 : Class := { plain "java/lang/constant/ConstantDesc" (some 0) with
  accessFlags := 1537
  interfaces := #[]
  cf := some (fileOf pool6 1 #[] #[] 1537 3 #[] #[])
  fields := #[]
  methods := #[]
  instanceTypes := #[]
  staticTypes := #[]
  resolved := Array.replicate 37 none
  statics := none }

def pool7 : Array CpInfo := pool [(1, .methodref 2 3), (0, .class_ 4), (0, .nameAndType 5 6), (0, u "java/lang/Object"), (0, u "<init>"), (0, u "()V"), (0, .string 8), (0, u ""), (0, .fieldref 10 11), (0, .class_ 12), (0, .nameAndType 13 14), (0, u "java/lang/String"), (0, u "value"), (0, u "[B"), (0, .fieldref 10 16), (0, .nameAndType 17 18), (0, u "coder"), (0, u "B"), (2, u "hash"), (0, u "I"), (2, u "hashIsZero"), (0, u "Z"), (0, .methodref 10 28), (0, .nameAndType 5 29), (0, u "([CIILjava/lang/Void;)V"), (8, .fieldref 10 39), (0, .nameAndType 40 26), (0, u "COMPACT_STRINGS"), (1, .class_ 44), (1, u "java/lang/StringUTF16"), (0, u "compress"), (1, .methodref 42 48), (0, .nameAndType 49 50), (0, u "coderFromArrayLen"), (0, u "([BI)B"), (3, .methodref 55 56), (0, .class_ 57), (0, .nameAndType 58 59), (0, u "java/util/Arrays"), (0, u "copyOfRange"), (0, u "([BII)[B"), (47, .class_ 109), (1, u "java/lang/StringLatin1"), (32, u "()Z"), (34, .methodref 42 178), (0, .nameAndType 45 179), (0, u "([CII)[B"), (13, .class_ 195), (1, u "java/lang/System"), (16, .methodref 193 213), (0, .nameAndType 214 215), (0, u "arraycopy"), (0, u "(Ljava/lang/Object;ILjava/lang/Object;II)V"), (118, u "()I"), (0, .methodref 10 336), (0, .nameAndType 17 337), (0, u "()B"), (2, u "()[B"), (22, u "([BI)C"), (27, u "(II)V"), (35, u "(I)C"), (61, .methodref 10 490), (0, .nameAndType 5 491), (0, u "(Ljava/lang/AbstractStringBuilder;Ljava/lang/Void;)V"), (0, .methodref 10 493), (0, .nameAndType 494 142), (0, u "isLatin1"), (0, .methodref 107 496), (0, .nameAndType 497 363), (0, u "charAt"), (3, u "checkIndex"), (4, .nameAndType 507 334), (0, u "length"), (24, u "getBytes"), (16, .methodref 550 506), (0, .class_ 551), (0, u "java/lang/AbstractStringBuilder"), (0, .methodref 550 553), (0, .nameAndType 554 340), (0, u "getValue"), (20, .class_ 576), (0, u "java/lang/CharSequence"), (22, u "CASE_INSENSITIVE_ORDER"), (0, u "Ljava/util/Comparator;"), (220, u "([BIB)V"), (188, u "([C)V"), (36, .methodref 550 493), (5, .fieldref 1054 1055), (0, .class_ 1056), (0, .nameAndType 1057 1058), (0, u "jdk/internal/util/Preconditions"), (0, u "SIOOBE_FORMATTER"), (0, u "Ljava/util/function/BiFunction;"), (0, .methodref 1054 1060), (0, .nameAndType 501 1061), (0, u "(IILjava/util/function/BiFunction;)I"), (39, u "serialPersistentFields"), (0, u "[Ljava/io/ObjectStreamField;"), (0, .class_ 1104), (0, u "java/lang/String$CaseInsensitiveComparator"), (1, .class_ 1107), (0, u "java/io/Serializable"), (0, .class_ 1109), (0, u "java/lang/Comparable"), (0, .class_ 1111), (0, u "java/lang/constant/Constable"), (0, .class_ 1113), (0, u "java/lang/constant/ConstantDesc"), (2, u "serialVersionUID"), (0, u "J"), (3, u "REPL"), (0, u "C"), (2, u "LATIN1"), (1, u "UTF16"), (105, u "(Ljava/lang/StringBuilder;)V")] 217

def k7m0 : Method := { name := "<init>", desc := "()V", sig := { parameters := [], returnType := none }, accessFlags := 1, code := none }
def k7c1 : Code := { maxStack := 5, maxLocals := 2, code := jdk_42_method_3_code, exceptionTable := #[], attributes := #[] }
def k7m1 : Method := { name := "<init>", desc := "([C)V", sig := { parameters := [(.array .char)], returnType := none }, accessFlags := 1, code := some k7c1 }
def k7c2 : Code := { maxStack := 3, maxLocals := 2, code := jdk_42_method_53_code, exceptionTable := #[], attributes := #[] }
def k7m2 : Method := { name := "<init>", desc := "(Ljava/lang/StringBuilder;)V", sig := { parameters := [(.object "java/lang/StringBuilder")], returnType := none }, accessFlags := 1, code := some k7c2 }
def k7c3 : Code := { maxStack := 2, maxLocals := 1, code := jdk_42_method_54_code, exceptionTable := #[], attributes := #[] }
def k7m3 : Method := { name := "length", desc := "()I", sig := { parameters := [], returnType := some .int }, accessFlags := 1, code := some k7c3 }
def k7c4 : Code := { maxStack := 2, maxLocals := 2, code := jdk_42_method_56_code, exceptionTable := #[], attributes := #[] }
def k7m4 : Method := { name := "charAt", desc := "(I)C", sig := { parameters := [.int], returnType := some .char }, accessFlags := 1, code := some k7c4 }
def k7c5 : Code := { maxStack := 5, maxLocals := 4, code := jdk_42_method_147_code, exceptionTable := #[], attributes := #[] }
def k7m5 : Method := { name := "getBytes", desc := "([BIB)V", sig := { parameters := [(.array .byte), .int, .byte], returnType := none }, accessFlags := 0, code := some k7c5 }
def k7c6 : Code := { maxStack := 4, maxLocals := 6, code := jdk_42_method_149_code, exceptionTable := #[], attributes := #[] }
def k7m6 : Method := { name := "<init>", desc := "([CIILjava/lang/Void;)V", sig := { parameters := [(.array .char), .int, .int, (.object "java/lang/Void")], returnType := none }, accessFlags := 2, code := some k7c6 }
def k7c7 : Code := { maxStack := 5, maxLocals := 5, code := jdk_42_method_150_code, exceptionTable := #[], attributes := #[] }
def k7m7 : Method := { name := "<init>", desc := "(Ljava/lang/AbstractStringBuilder;Ljava/lang/Void;)V", sig := { parameters := [(.object "java/lang/AbstractStringBuilder"), (.object "java/lang/Void")], returnType := none }, accessFlags := 0, code := some k7c7 }
def k7c8 : Code := { maxStack := 1, maxLocals := 1, code := jdk_42_method_152_code, exceptionTable := #[], attributes := #[] }
def k7m8 : Method := { name := "coder", desc := "()B", sig := { parameters := [], returnType := some .byte }, accessFlags := 0, code := some k7c8 }
def k7c9 : Code := { maxStack := 1, maxLocals := 1, code := jdk_42_method_154_code, exceptionTable := #[], attributes := #[] }
def k7m9 : Method := { name := "isLatin1", desc := "()Z", sig := { parameters := [], returnType := some .boolean }, accessFlags := 0, code := some k7c9 }
def k7c10 : Code := { maxStack := 3, maxLocals := 2, code := jdk_42_method_155_code, exceptionTable := #[], attributes := #[] }
def k7m10 : Method := { name := "checkIndex", desc := "(II)V", sig := { parameters := [.int, .int], returnType := none }, accessFlags := 8, code := some k7c10 }
/-- java/lang/String -/
def k7 : Class := { plain "java/lang/String" (some 0) with
  accessFlags := 49
  interfaces := #[2, 3, 4, 5, 6]
  cf := some (fileOf pool7 10 #[.nestMembers #[1103]] #[{ accessFlags := 1, nameIndex := 5, descriptorIndex := 6, attributes := #[] }, { accessFlags := 1, nameIndex := 5, descriptorIndex := 1010, attributes := #[] }, { accessFlags := 1, nameIndex := 5, descriptorIndex := 1233, attributes := #[] }, { accessFlags := 1, nameIndex := 507, descriptorIndex := 334, attributes := #[] }, { accessFlags := 1, nameIndex := 497, descriptorIndex := 427, attributes := #[] }, { accessFlags := 0, nameIndex := 532, descriptorIndex := 821, attributes := #[] }, { accessFlags := 2, nameIndex := 5, descriptorIndex := 29, attributes := #[] }, { accessFlags := 0, nameIndex := 5, descriptorIndex := 491, attributes := #[] }, { accessFlags := 0, nameIndex := 17, descriptorIndex := 337, attributes := #[] }, { accessFlags := 0, nameIndex := 494, descriptorIndex := 142, attributes := #[] }, { accessFlags := 8, nameIndex := 501, descriptorIndex := 391, attributes := #[] }] 49 2 #[1106, 1108, 575, 1110, 1112] #[{ accessFlags := 18, nameIndex := 13, descriptorIndex := 14, attributes := #[] }, { accessFlags := 18, nameIndex := 17, descriptorIndex := 18, attributes := #[] }, { accessFlags := 2, nameIndex := 21, descriptorIndex := 22, attributes := #[] }, { accessFlags := 2, nameIndex := 25, descriptorIndex := 26, attributes := #[] }, { accessFlags := 26, nameIndex := 1116, descriptorIndex := 1117, attributes := #[] }, { accessFlags := 24, nameIndex := 40, descriptorIndex := 26, attributes := #[] }, { accessFlags := 26, nameIndex := 1101, descriptorIndex := 1102, attributes := #[] }, { accessFlags := 26, nameIndex := 1121, descriptorIndex := 1122, attributes := #[] }, { accessFlags := 25, nameIndex := 599, descriptorIndex := 600, attributes := #[] }, { accessFlags := 24, nameIndex := 1125, descriptorIndex := 18, attributes := #[] }, { accessFlags := 24, nameIndex := 1127, descriptorIndex := 18, attributes := #[] }])
  fields := #[{ name := "value", type := (.array .byte), accessFlags := 18, slot := 0, constantValue := 0 }, { name := "coder", type := .byte, accessFlags := 18, slot := 1, constantValue := 0 }, { name := "hash", type := .int, accessFlags := 2, slot := 2, constantValue := 0 }, { name := "hashIsZero", type := .boolean, accessFlags := 2, slot := 3, constantValue := 0 }, { name := "serialVersionUID", type := .long, accessFlags := 26, slot := 0, constantValue := 0 }, { name := "COMPACT_STRINGS", type := .boolean, accessFlags := 24, slot := 1, constantValue := 0 }, { name := "serialPersistentFields", type := (.array (.object "java/io/ObjectStreamField")), accessFlags := 26, slot := 2, constantValue := 0 }, { name := "REPL", type := .char, accessFlags := 26, slot := 3, constantValue := 0 }, { name := "CASE_INSENSITIVE_ORDER", type := (.object "java/util/Comparator"), accessFlags := 25, slot := 4, constantValue := 0 }, { name := "LATIN1", type := .byte, accessFlags := 24, slot := 5, constantValue := 0 }, { name := "UTF16", type := .byte, accessFlags := 24, slot := 6, constantValue := 0 }]
  methods := #[k7m0, k7m1, k7m2, k7m3, k7m4, k7m5, k7m6, k7m7, k7m8, k7m9, k7m10]
  instanceTypes := #[(.array .byte), .byte, .int, .boolean]
  staticTypes := #[.long, .boolean, (.array (.object "java/io/ObjectStreamField")), .char, (.object "java/util/Comparator"), .byte, .byte]
  resolved := Array.replicate 1451 none
  statics := some 0 }

def pool8 : Array CpInfo := pool [(6, .class_ 8), (1, u "java/lang/Object"), (0, u "<init>"), (0, u "()V"), (1, .class_ 14), (1, u "java/lang/StringUTF16"), (31, u "$assertionsDisabled"), (0, u "Z"), (13, u "HI_BYTE_SHIFT"), (0, u "I"), (2, u "LO_BYTE_SHIFT"), (49, .methodref 12 116), (0, .nameAndType 117 118), (0, u "compress"), (0, u "([CI[BII)I"), (3, u "([CII)[B"), (138, u "coderFromArrayLen"), (0, u "([BI)B"), (106, .class_ 371), (1, u "java/lang/StringUTF16$LinesSpliterator"), (58, u "MAX_LENGTH"), (196, .class_ 628), (0, u "java/lang/StringUTF16$CodePointsSpliterator"), (0, .class_ 630), (0, u "java/lang/StringUTF16$CharsSpliterator")] 4

def k8m0 : Method := { name := "<init>", desc := "()V", sig := { parameters := [], returnType := none }, accessFlags := 0, code := none }
def k8c1 : Code := { maxStack := 2, maxLocals := 2, code := jdk_52_method_15_code, exceptionTable := #[], attributes := #[] }
def k8m1 : Method := { name := "coderFromArrayLen", desc := "([BI)B", sig := { parameters := [(.array .byte), .int], returnType := some .byte }, accessFlags := 8, code := some k8c1 }
def k8c2 : Code := { maxStack := 5, maxLocals := 6, code := jdk_52_method_16_code, exceptionTable := #[], attributes := #[] }
def k8m2 : Method := { name := "compress", desc := "([CII)[B", sig := { parameters := [(.array .char), .int, .int], returnType := some (.array .byte) }, accessFlags := 9, code := some k8c2 }
def k8c3 : Code := { maxStack := 3, maxLocals := 7, code := jdk_52_method_21_code, exceptionTable := #[], attributes := #[] }
def k8m3 : Method := { name := "compress", desc := "([CI[BII)I", sig := { parameters := [(.array .char), .int, (.array .byte), .int, .int], returnType := some .int }, accessFlags := 9, code := some k8c3 }
/-- java/lang/StringUTF16 -/
def k8 : Class := { plain "java/lang/StringUTF16" (some 0) with
  accessFlags := 48
  interfaces := #[]
  cf := some (fileOf pool8 12 #[.nestMembers #[627, 629, 369]] #[{ accessFlags := 0, nameIndex := 9, descriptorIndex := 10, attributes := #[] }, { accessFlags := 8, nameIndex := 261, descriptorIndex := 262, attributes := #[] }, { accessFlags := 9, nameIndex := 117, descriptorIndex := 122, attributes := #[] }, { accessFlags := 9, nameIndex := 117, descriptorIndex := 118, attributes := #[] }] 48 6 #[] #[{ accessFlags := 26, nameIndex := 61, descriptorIndex := 62, attributes := #[] }, { accessFlags := 26, nameIndex := 65, descriptorIndex := 62, attributes := #[] }, { accessFlags := 24, nameIndex := 430, descriptorIndex := 62, attributes := #[] }, { accessFlags := 4120, nameIndex := 46, descriptorIndex := 47, attributes := #[] }])
  fields := #[{ name := "HI_BYTE_SHIFT", type := .int, accessFlags := 26, slot := 0, constantValue := 0 }, { name := "LO_BYTE_SHIFT", type := .int, accessFlags := 26, slot := 1, constantValue := 0 }, { name := "MAX_LENGTH", type := .int, accessFlags := 24, slot := 2, constantValue := 0 }, { name := "$assertionsDisabled", type := .boolean, accessFlags := 4120, slot := 3, constantValue := 0 }]
  methods := #[k8m0, k8m1, k8m2, k8m3]
  instanceTypes := #[]
  staticTypes := #[.int, .int, .int, .boolean]
  resolved := Array.replicate 635 none
  statics := none }

def pool9 : Array CpInfo := pool [(1, .methodref 2 3), (0, .class_ 4), (0, .nameAndType 5 6), (0, u "java/lang/Object"), (0, u "<init>"), (0, u "()V"), (0, .class_ 8), (0, u "java/lang/Record")] 13

def k9c0 : Code := { maxStack := 1, maxLocals := 1, code := jdk_30_method_1_code, exceptionTable := #[], attributes := #[] }
def k9m0 : Method := { name := "<init>", desc := "()V", sig := { parameters := [], returnType := none }, accessFlags := 4, code := some k9c0 }
/-- java/lang/Record -/
def k9 : Class := { plain "java/lang/Record" (some 0) with
  accessFlags := 1057
  interfaces := #[]
  cf := some (fileOf pool9 7 #[] #[{ accessFlags := 4, nameIndex := 5, descriptorIndex := 6, attributes := #[] }] 1057 2 #[] #[])
  fields := #[]
  methods := #[k9m0]
  instanceTypes := #[]
  staticTypes := #[]
  resolved := Array.replicate 22 none
  statics := none }

def pool10 : Array CpInfo := pool [(1, .class_ 2), (0, u "com/example/tight_bound/tightbound/Value"), (0, .class_ 4), (0, u "java/lang/Object")] 11

/-- com/example/tight_bound/tightbound/Value -/
def k10 : Class := { plain "com/example/tight_bound/tightbound/Value" (some 0) with
  accessFlags := 1537
  interfaces := #[]
  cf := some (fileOf pool10 1 #[] #[] 1537 3 #[] #[])
  fields := #[]
  methods := #[]
  instanceTypes := #[]
  staticTypes := #[]
  resolved := Array.replicate 16 none
  statics := none }

def pool11 : Array CpInfo := pool [(1, .methodref 2 3), (0, .class_ 4), (0, .nameAndType 5 6), (0, u "java/lang/Record"), (0, u "<init>"), (0, u "()V"), (0, .fieldref 8 9), (0, .class_ 10), (0, .nameAndType 11 12), (0, u "com/example/tight_bound/tightbound/HeapObject"), (0, u "className"), (0, u "Ljava/lang/String;"), (0, .fieldref 8 14), (0, .nameAndType 15 16), (0, u "number"), (0, u "I"), (0, .class_ 18), (0, u "java/lang/StringBuilder"), (0, .methodref 17 3), (0, .methodref 17 21), (0, .nameAndType 22 23), (0, u "append"), (0, u "(Ljava/lang/String;)Ljava/lang/StringBuilder;"), (0, .methodref 17 25), (0, .nameAndType 22 26), (0, u "(I)Ljava/lang/StringBuilder;"), (0, .methodref 17 28), (0, .nameAndType 29 30), (0, u "toString"), (0, u "()Ljava/lang/String;"), (8, .class_ 40), (0, u "com/example/tight_bound/tightbound/Value"), (0, u "(Ljava/lang/String;I)V")] 26

def k11c0 : Code := { maxStack := 2, maxLocals := 3, code := prog_10_method_1_code, exceptionTable := #[], attributes := #[] }
def k11m0 : Method := { name := "<init>", desc := "(Ljava/lang/String;I)V", sig := { parameters := [(.object "java/lang/String"), .int], returnType := none }, accessFlags := 1, code := some k11c0 }
def k11c1 : Code := { maxStack := 2, maxLocals := 1, code := prog_10_method_2_code, exceptionTable := #[], attributes := #[] }
def k11m1 : Method := { name := "toString", desc := "()Ljava/lang/String;", sig := { parameters := [], returnType := some (.object "java/lang/String") }, accessFlags := 1, code := some k11c1 }
/-- com/example/tight_bound/tightbound/HeapObject -/
def k11 : Class := { plain "com/example/tight_bound/tightbound/HeapObject" (some 9) with
  accessFlags := 49
  interfaces := #[10]
  cf := some (fileOf pool11 8 #[] #[{ accessFlags := 1, nameIndex := 5, descriptorIndex := 41, attributes := #[] }, { accessFlags := 1, nameIndex := 29, descriptorIndex := 30, attributes := #[] }] 49 2 #[39] #[{ accessFlags := 18, nameIndex := 11, descriptorIndex := 12, attributes := #[] }, { accessFlags := 18, nameIndex := 15, descriptorIndex := 16, attributes := #[] }])
  fields := #[{ name := "className", type := (.object "java/lang/String"), accessFlags := 18, slot := 0, constantValue := 0 }, { name := "number", type := .int, accessFlags := 18, slot := 1, constantValue := 0 }]
  methods := #[k11m0, k11m1]
  instanceTypes := #[(.object "java/lang/String"), .int]
  staticTypes := #[]
  resolved := Array.replicate 68 none
  statics := none }

def pool12 : Array CpInfo := pool [(1, .class_ 2), (0, u "java/lang/Appendable"), (0, .class_ 4), (0, u "java/lang/Object")] 9

/-- java/lang/Appendable -/
def k12 : Class := { plain "java/lang/Appendable" (some 0) with
  accessFlags := 1537
  interfaces := #[]
  cf := some (fileOf pool12 1 #[] #[] 1537 3 #[] #[])
  fields := #[]
  methods := #[]
  instanceTypes := #[]
  staticTypes := #[]
  resolved := Array.replicate 14 none
  statics := none }

def pool13 : Array CpInfo := pool [(1, .class_ 2), (0, u "java/lang/String"), (0, .methodref 4 5), (0, .class_ 6), (0, .nameAndType 7 8), (0, u "java/lang/Object"), (0, u "<init>"), (0, u "()V"), (1, .class_ 12), (1, u "java/lang/AbstractStringBuilder"), (0, u "EMPTYVALUE"), (0, u "[B"), (0, .fieldref 10 16), (0, .nameAndType 17 14), (0, u "value"), (0, .fieldref 1 19), (0, .nameAndType 20 21), (0, u "COMPACT_STRINGS"), (0, u "Z"), (0, .fieldref 10 23), (0, .nameAndType 24 25), (0, u "coder"), (0, u "B"), (6, .methodref 1 33), (0, .nameAndType 34 35), (0, u "length"), (0, u "()I"), (0, .class_ 37), (0, u "java/lang/Integer"), (2, .methodref 1 41), (0, .nameAndType 24 42), (0, u "()B"), (2, u "append"), (0, u "(Ljava/lang/String;)Ljava/lang/AbstractStringBuilder;"), (1, .class_ 49), (0, u "java/lang/CharSequence"), (19, u "(Ljava/lang/String;)V"), (5, u "maybeLatin1"), (3, .fieldref 10 80), (0, .nameAndType 81 82), (0, u "count"), (0, u "I"), (0, .methodref 10 84), (0, .nameAndType 85 86), (0, u "isLatin1"), (0, u "()Z"), (13, .methodref 10 101), (0, .nameAndType 102 103), (0, u "ensureCapacityInternal"), (0, u "(I)V"), (3, u "(I)I"), (80, u "getChars"), (19, .methodref 10 209), (0, .nameAndType 210 211), (0, u "putStringAt"), (0, u "(ILjava/lang/String;)V"), (5, u "inflateIfNeededFor"), (2, .nameAndType 221 222), (0, u "getBytes"), (0, u "([BIB)V"), (22, .methodref 36 246), (0, .nameAndType 247 107), (0, u "stringSize"), (0, .methodref 36 249), (0, .nameAndType 188 250), (0, u "(II[B)I"), (146, .methodref 10 398), (0, .nameAndType 217 69), (0, .methodref 1 220), (3, u "()[B"), (40, .class_ 445), (0, u "java/lang/Appendable"), (65, u "(I)Ljava/lang/AbstractStringBuilder;"), (40, u "getValue")] 56

def k13m0 : Method := { name := "<init>", desc := "()V", sig := { parameters := [], returnType := none }, accessFlags := 0, code := none }
def k13c1 : Code := { maxStack := 2, maxLocals := 2, code := jdk_68_method_2_code, exceptionTable := #[], attributes := #[] }
def k13m1 : Method := { name := "<init>", desc := "(I)V", sig := { parameters := [.int], returnType := none }, accessFlags := 0, code := some k13c1 }
def k13c2 : Code := { maxStack := 1, maxLocals := 1, code := jdk_68_method_6_code, exceptionTable := #[], attributes := #[] }
def k13m2 : Method := { name := "length", desc := "()I", sig := { parameters := [], returnType := some .int }, accessFlags := 1, code := some k13c2 }
def k13c3 : Code := { maxStack := 4, maxLocals := 3, code := jdk_68_method_9_code, exceptionTable := #[], attributes := #[] }
def k13m3 : Method := { name := "ensureCapacityInternal", desc := "(I)V", sig := { parameters := [.int], returnType := none }, accessFlags := 2, code := some k13c3 }
def k13c4 : Code := { maxStack := 3, maxLocals := 3, code := jdk_68_method_22_code, exceptionTable := #[], attributes := #[] }
def k13m4 : Method := { name := "append", desc := "(Ljava/lang/String;)Ljava/lang/AbstractStringBuilder;", sig := { parameters := [(.object "java/lang/String")], returnType := some (.object "java/lang/AbstractStringBuilder") }, accessFlags := 1, code := some k13c4 }
def k13c5 : Code := { maxStack := 4, maxLocals := 4, code := jdk_68_method_32_code, exceptionTable := #[], attributes := #[] }
def k13m5 : Method := { name := "append", desc := "(I)Ljava/lang/AbstractStringBuilder;", sig := { parameters := [.int], returnType := some (.object "java/lang/AbstractStringBuilder") }, accessFlags := 1, code := some k13c5 }
def k13c6 : Code := { maxStack := 1, maxLocals := 1, code := jdk_68_method_64_code, exceptionTable := #[], attributes := #[] }
def k13m6 : Method := { name := "getValue", desc := "()[B", sig := { parameters := [], returnType := some (.array .byte) }, accessFlags := 16, code := some k13c6 }
def k13c7 : Code := { maxStack := 1, maxLocals := 1, code := jdk_68_method_68_code, exceptionTable := #[], attributes := #[] }
def k13m7 : Method := { name := "isLatin1", desc := "()Z", sig := { parameters := [], returnType := some .boolean }, accessFlags := 16, code := some k13c7 }
def k13c8 : Code := { maxStack := 2, maxLocals := 2, code := jdk_68_method_71_code, exceptionTable := #[], attributes := #[] }
def k13m8 : Method := { name := "inflateIfNeededFor", desc := "(Ljava/lang/String;)V", sig := { parameters := [(.object "java/lang/String")], returnType := none }, accessFlags := 2, code := some k13c8 }
def k13c9 : Code := { maxStack := 4, maxLocals := 3, code := jdk_68_method_73_code, exceptionTable := #[], attributes := #[] }
def k13m9 : Method := { name := "putStringAt", desc := "(ILjava/lang/String;)V", sig := { parameters := [.int, (.object "java/lang/String")], returnType := none }, accessFlags := 2, code := some k13c9 }
/-- java/lang/AbstractStringBuilder -/
def k13 : Class := { plain "java/lang/AbstractStringBuilder" (some 0) with
  accessFlags := 1056
  interfaces := #[12, 4]
  cf := some (fileOf pool13 10 #[] #[{ accessFlags := 0, nameIndex := 7, descriptorIndex := 8, attributes := #[] }, { accessFlags := 0, nameIndex := 7, descriptorIndex := 103, attributes := #[] }, { accessFlags := 1, nameIndex := 34, descriptorIndex := 35, attributes := #[] }, { accessFlags := 2, nameIndex := 102, descriptorIndex := 103, attributes := #[] }, { accessFlags := 1, nameIndex := 45, descriptorIndex := 46, attributes := #[] }, { accessFlags := 1, nameIndex := 45, descriptorIndex := 511, attributes := #[] }, { accessFlags := 16, nameIndex := 552, descriptorIndex := 403, attributes := #[] }, { accessFlags := 16, nameIndex := 85, descriptorIndex := 86, attributes := #[] }, { accessFlags := 2, nameIndex := 217, descriptorIndex := 69, attributes := #[] }, { accessFlags := 2, nameIndex := 210, descriptorIndex := 211, attributes := #[] }] 1056 4 #[444, 48] #[{ accessFlags := 0, nameIndex := 17, descriptorIndex := 14, attributes := #[] }, { accessFlags := 0, nameIndex := 24, descriptorIndex := 25, attributes := #[] }, { accessFlags := 0, nameIndex := 75, descriptorIndex := 21, attributes := #[] }, { accessFlags := 0, nameIndex := 81, descriptorIndex := 82, attributes := #[] }, { accessFlags := 26, nameIndex := 13, descriptorIndex := 14, attributes := #[] }])
  fields := #[{ name := "value", type := (.array .byte), accessFlags := 0, slot := 0, constantValue := 0 }, { name := "coder", type := .byte, accessFlags := 0, slot := 1, constantValue := 0 }, { name := "maybeLatin1", type := .boolean, accessFlags := 0, slot := 2, constantValue := 0 }, { name := "count", type := .int, accessFlags := 0, slot := 3, constantValue := 0 }, { name := "EMPTYVALUE", type := (.array .byte), accessFlags := 26, slot := 0, constantValue := 0 }]
  methods := #[k13m0, k13m1, k13m2, k13m3, k13m4, k13m5, k13m6, k13m7, k13m8, k13m9]
  instanceTypes := #[(.array .byte), .byte, .boolean, .int]
  staticTypes := #[(.array .byte)]
  resolved := Array.replicate 609 none
  statics := none }

def pool14 : Array CpInfo := pool [(1, .methodref 2 3), (0, .class_ 4), (0, .nameAndType 5 6), (0, u "java/lang/AbstractStringBuilder"), (0, u "<init>"), (0, u "(I)V"), (11, .class_ 20), (1, u "java/lang/String"), (3, .class_ 26), (1, u "java/lang/StringBuilder"), (0, u "append"), (0, u "(Ljava/lang/String;)Ljava/lang/StringBuilder;"), (0, .methodref 2 30), (0, .nameAndType 27 31), (0, u "(Ljava/lang/String;)Ljava/lang/AbstractStringBuilder;"), (21, .methodref 2 54), (0, .nameAndType 27 55), (0, u "(I)Ljava/lang/AbstractStringBuilder;"), (81, .methodref 18 138), (0, .nameAndType 5 139), (0, u "(Ljava/lang/StringBuilder;)V"), (5, u "()V"), (10, u "()I"), (111, u "(I)Ljava/lang/StringBuilder;"), (74, .methodref 2 344), (0, .nameAndType 345 156), (0, u "length"), (3, .class_ 350), (0, u "java/lang/Appendable"), (0, .class_ 352), (0, u "java/io/Serializable"), (0, .class_ 354), (0, u "java/lang/Comparable"), (0, .class_ 356), (0, u "java/lang/CharSequence"), (0, u "serialVersionUID"), (0, u "J"), (40, u "toString"), (0, u "()Ljava/lang/String;")] 21

def k14c0 : Code := { maxStack := 2, maxLocals := 1, code := jdk_67_method_1_code, exceptionTable := #[], attributes := #[] }
def k14m0 : Method := { name := "<init>", desc := "()V", sig := { parameters := [], returnType := none }, accessFlags := 1, code := some k14c0 }
def k14c1 : Code := { maxStack := 2, maxLocals := 2, code := jdk_67_method_7_code, exceptionTable := #[], attributes := #[] }
def k14m1 : Method := { name := "append", desc := "(Ljava/lang/String;)Ljava/lang/StringBuilder;", sig := { parameters := [(.object "java/lang/String")], returnType := some (.object "java/lang/StringBuilder") }, accessFlags := 1, code := some k14c1 }
def k14c2 : Code := { maxStack := 2, maxLocals := 2, code := jdk_67_method_15_code, exceptionTable := #[], attributes := #[] }
def k14m2 : Method := { name := "append", desc := "(I)Ljava/lang/StringBuilder;", sig := { parameters := [.int], returnType := some (.object "java/lang/StringBuilder") }, accessFlags := 1, code := some k14c2 }
def k14c3 : Code := { maxStack := 3, maxLocals := 1, code := jdk_67_method_42_code, exceptionTable := #[], attributes := #[] }
def k14m3 : Method := { name := "toString", desc := "()Ljava/lang/String;", sig := { parameters := [], returnType := some (.object "java/lang/String") }, accessFlags := 1, code := some k14c3 }
def k14c4 : Code := { maxStack := 1, maxLocals := 1, code := jdk_67_method_93_code, exceptionTable := #[], attributes := #[] }
def k14m4 : Method := { name := "length", desc := "()I", sig := { parameters := [], returnType := some .int }, accessFlags := 4161, code := some k14c4 }
/-- java/lang/StringBuilder -/
def k14 : Class := { plain "java/lang/StringBuilder" (some 13) with
  accessFlags := 49
  interfaces := #[12, 2, 3, 4]
  cf := some (fileOf pool14 24 #[] #[{ accessFlags := 1, nameIndex := 5, descriptorIndex := 145, attributes := #[] }, { accessFlags := 1, nameIndex := 27, descriptorIndex := 28, attributes := #[] }, { accessFlags := 1, nameIndex := 27, descriptorIndex := 268, attributes := #[] }, { accessFlags := 1, nameIndex := 399, descriptorIndex := 400, attributes := #[] }, { accessFlags := 4161, nameIndex := 345, descriptorIndex := 156, attributes := #[] }] 49 2 #[349, 351, 353, 355] #[{ accessFlags := 24, nameIndex := 357, descriptorIndex := 358, attributes := #[] }])
  fields := #[{ name := "serialVersionUID", type := .long, accessFlags := 24, slot := 0, constantValue := 0 }]
  methods := #[k14m0, k14m1, k14m2, k14m3, k14m4]
  instanceTypes := #[(.array .byte), .byte, .boolean, .int]
  staticTypes := #[.long]
  resolved := Array.replicate 422 none
  statics := none }

def pool15 : Array CpInfo := pool [(2, .class_ 4), (1, u "java/lang/Object"), (0, u "<init>"), (0, u "()V"), (1, .class_ 10), (1, u "java/lang/System"), (0, u "allowSecurityManager"), (0, u "I"), (16, u "cons"), (0, u "Ljava/io/Console;"), (77, .class_ 110), (1, u "java/lang/System$CallersHolder"), (43, u "initialErrStream"), (0, u "Ljava/io/PrintStream;"), (19, u "security"), (0, u "Ljava/lang/SecurityManager;"), (31, .class_ 209), (0, u "java/lang/System$1"), (7, u "props"), (0, u "Ljava/util/Properties;"), (2, u "lineSeparator"), (0, u "Ljava/lang/String;"), (96, .class_ 321), (1, u "java/lang/System$LoggerFinder"), (5, .class_ 328), (0, u "java/lang/System$Logger"), (67, u "err"), (2, u "out"), (91, u "notSupportedJnuEncoding"), (15, u "in"), (17, u "initialIn"), (0, u "Ljava/io/InputStream;"), (35, u "bootLayer"), (0, u "Ljava/lang/ModuleLayer;"), (99, .class_ 664), (0, u "java/lang/System$2"), (9, u "NEVER"), (2, u "MAYBE"), (49, u "arraycopy"), (0, u "(Ljava/lang/Object;ILjava/lang/Object;II)V"), (72, .class_ 802), (0, u "java/lang/System$Logger$Level")] 31

def k15m0 : Method := { name := "<init>", desc := "()V", sig := { parameters := [], returnType := none }, accessFlags := 2, code := none }
def k15m1 : Method := { name := "arraycopy", desc := "(Ljava/lang/Object;ILjava/lang/Object;II)V", sig := { parameters := [(.object "java/lang/Object"), .int, (.object "java/lang/Object"), .int, .int], returnType := none }, accessFlags := 265, code := none }
/-- java/lang/System -/
def k15 : Class := { plain "java/lang/System" (some 0) with
  accessFlags := 49
  interfaces := #[]
  cf := some (fileOf pool15 8 #[.nestMembers #[319, 327, 801, 108, 663, 208]] #[{ accessFlags := 2, nameIndex := 5, descriptorIndex := 6, attributes := #[] }, { accessFlags := 265, nameIndex := 727, descriptorIndex := 728, attributes := #[] }] 49 2 #[] #[{ accessFlags := 25, nameIndex := 507, descriptorIndex := 526, attributes := #[] }, { accessFlags := 25, nameIndex := 399, descriptorIndex := 155, attributes := #[] }, { accessFlags := 25, nameIndex := 396, descriptorIndex := 155, attributes := #[] }, { accessFlags := 10, nameIndex := 525, descriptorIndex := 526, attributes := #[] }, { accessFlags := 26, nameIndex := 674, descriptorIndex := 12, attributes := #[] }, { accessFlags := 26, nameIndex := 677, descriptorIndex := 12, attributes := #[] }, { accessFlags := 10, nameIndex := 11, descriptorIndex := 12, attributes := #[] }, { accessFlags := 74, nameIndex := 175, descriptorIndex := 176, attributes := #[] }, { accessFlags := 10, nameIndex := 491, descriptorIndex := 222, attributes := #[] }, { accessFlags := 74, nameIndex := 29, descriptorIndex := 30, attributes := #[] }, { accessFlags := 74, nameIndex := 154, descriptorIndex := 155, attributes := #[] }, { accessFlags := 10, nameIndex := 217, descriptorIndex := 218, attributes := #[] }, { accessFlags := 10, nameIndex := 221, descriptorIndex := 222, attributes := #[] }, { accessFlags := 8, nameIndex := 562, descriptorIndex := 563, attributes := #[] }])
  fields := #[{ name := "in", type := (.object "java/io/InputStream"), accessFlags := 25, slot := 0, constantValue := 0 }, { name := "out", type := (.object "java/io/PrintStream"), accessFlags := 25, slot := 1, constantValue := 0 }, { name := "err", type := (.object "java/io/PrintStream"), accessFlags := 25, slot := 2, constantValue := 0 }, { name := "initialIn", type := (.object "java/io/InputStream"), accessFlags := 10, slot := 3, constantValue := 0 }, { name := "NEVER", type := .int, accessFlags := 26, slot := 4, constantValue := 0 }, { name := "MAYBE", type := .int, accessFlags := 26, slot := 5, constantValue := 0 }, { name := "allowSecurityManager", type := .int, accessFlags := 10, slot := 6, constantValue := 0 }, { name := "security", type := (.object "java/lang/SecurityManager"), accessFlags := 74, slot := 7, constantValue := 0 }, { name := "notSupportedJnuEncoding", type := (.object "java/lang/String"), accessFlags := 10, slot := 8, constantValue := 0 }, { name := "cons", type := (.object "java/io/Console"), accessFlags := 74, slot := 9, constantValue := 0 }, { name := "initialErrStream", type := (.object "java/io/PrintStream"), accessFlags := 74, slot := 10, constantValue := 0 }, { name := "props", type := (.object "java/util/Properties"), accessFlags := 10, slot := 11, constantValue := 0 }, { name := "lineSeparator", type := (.object "java/lang/String"), accessFlags := 10, slot := 12, constantValue := 0 }, { name := "bootLayer", type := (.object "java/lang/ModuleLayer"), accessFlags := 8, slot := 13, constantValue := 0 }]
  methods := #[k15m0, k15m1]
  instanceTypes := #[]
  staticTypes := #[(.object "java/io/InputStream"), (.object "java/io/PrintStream"), (.object "java/io/PrintStream"), (.object "java/io/InputStream"), .int, .int, .int, (.object "java/lang/SecurityManager"), (.object "java/lang/String"), (.object "java/io/Console"), (.object "java/io/PrintStream"), (.object "java/util/Properties"), (.object "java/lang/String"), (.object "java/lang/ModuleLayer")]
  resolved := Array.replicate 834 none
  statics := none }

def pool16 : Array CpInfo := pool [(2, .class_ 4), (1, u "java/lang/Object"), (0, u "<init>"), (0, u "()V"), (1, .class_ 10), (1, u "java/lang/Number"), (2, .class_ 14), (0, u "java/io/Serializable"), (0, u "serialVersionUID"), (0, u "J")] 20

def k16m0 : Method := { name := "<init>", desc := "()V", sig := { parameters := [], returnType := none }, accessFlags := 1, code := none }
/-- java/lang/Number -/
def k16 : Class := { plain "java/lang/Number" (some 0) with
  accessFlags := 1057
  interfaces := #[2]
  cf := some (fileOf pool16 8 #[] #[{ accessFlags := 1, nameIndex := 5, descriptorIndex := 6, attributes := #[] }] 1057 2 #[13] #[{ accessFlags := 26, nameIndex := 15, descriptorIndex := 16, attributes := #[] }])
  fields := #[{ name := "serialVersionUID", type := .long, accessFlags := 26, slot := 0, constantValue := 0 }]
  methods := #[k16m0]
  instanceTypes := #[]
  staticTypes := #[.long]
  resolved := Array.replicate 37 none
  statics := none }

def pool17 : Array CpInfo := pool [(1, .class_ 2), (0, u "java/lang/Integer"), (16, u "digits"), (0, u "[C"), (33, u "(I)I"), (19, u "stringSize"), (2, u "getChars"), (0, u "(II[B)I"), (4, .fieldref 1 84), (0, .nameAndType 85 86), (0, u "DigitOnes"), (0, u "[B"), (0, .fieldref 1 88), (0, .nameAndType 89 86), (0, u "DigitTens"), (99, .class_ 190), (0, u "java/lang/Integer$IntegerCache"), (3, u "I"), (8, .class_ 204), (0, u "java/lang/Number"), (2, u "value"), (94, u "TYPE"), (0, u "Ljava/lang/Class;"), (0, .class_ 305), (0, u "java/lang/Comparable"), (0, .class_ 307), (0, u "java/lang/constant/Constable"), (0, .class_ 309), (0, u "java/lang/constant/ConstantDesc"), (0, u "MIN_VALUE"), (1, u "MAX_VALUE"), (3, u "SIZE"), (1, u "BYTES"), (1, u "serialVersionUID"), (0, u "J")] 131

def k17c0 : Code := { maxStack := 4, maxLocals := 7, code := jdk_33_method_12_code, exceptionTable := #[], attributes := #[] }
def k17m0 : Method := { name := "getChars", desc := "(II[B)I", sig := { parameters := [.int, .int, (.array .byte)], returnType := some .int }, accessFlags := 8, code := some k17c0 }
def k17c1 : Code := { maxStack := 2, maxLocals := 4, code := jdk_33_method_13_code, exceptionTable := #[], attributes := #[] }
def k17m1 : Method := { name := "stringSize", desc := "(I)I", sig := { parameters := [.int], returnType := some .int }, accessFlags := 8, code := some k17c1 }
/-- java/lang/Integer -/
def k17 : Class := { plain "java/lang/Integer" (some 16) with
  accessFlags := 49
  interfaces := #[3, 5, 6]
  cf := some (fileOf pool17 1 #[.nestMembers #[189]] #[{ accessFlags := 8, nameIndex := 77, descriptorIndex := 78, attributes := #[] }, { accessFlags := 8, nameIndex := 74, descriptorIndex := 54, attributes := #[] }] 49 203 #[304, 306, 308] #[{ accessFlags := 25, nameIndex := 310, descriptorIndex := 194, attributes := #[] }, { accessFlags := 25, nameIndex := 312, descriptorIndex := 194, attributes := #[] }, { accessFlags := 25, nameIndex := 302, descriptorIndex := 303, attributes := #[] }, { accessFlags := 24, nameIndex := 19, descriptorIndex := 20, attributes := #[] }, { accessFlags := 24, nameIndex := 89, descriptorIndex := 86, attributes := #[] }, { accessFlags := 24, nameIndex := 85, descriptorIndex := 86, attributes := #[] }, { accessFlags := 18, nameIndex := 207, descriptorIndex := 194, attributes := #[] }, { accessFlags := 25, nameIndex := 316, descriptorIndex := 194, attributes := #[] }, { accessFlags := 25, nameIndex := 318, descriptorIndex := 194, attributes := #[] }, { accessFlags := 26, nameIndex := 320, descriptorIndex := 321, attributes := #[] }])
  fields := #[{ name := "MIN_VALUE", type := .int, accessFlags := 25, slot := 0, constantValue := 0 }, { name := "MAX_VALUE", type := .int, accessFlags := 25, slot := 1, constantValue := 0 }, { name := "TYPE", type := (.object "java/lang/Class"), accessFlags := 25, slot := 2, constantValue := 0 }, { name := "digits", type := (.array .char), accessFlags := 24, slot := 3, constantValue := 0 }, { name := "DigitTens", type := (.array .byte), accessFlags := 24, slot := 4, constantValue := 0 }, { name := "DigitOnes", type := (.array .byte), accessFlags := 24, slot := 5, constantValue := 0 }, { name := "value", type := .int, accessFlags := 18, slot := 0, constantValue := 0 }, { name := "SIZE", type := .int, accessFlags := 25, slot := 6, constantValue := 0 }, { name := "BYTES", type := .int, accessFlags := 25, slot := 7, constantValue := 0 }, { name := "serialVersionUID", type := .long, accessFlags := 26, slot := 8, constantValue := 0 }]
  methods := #[k17m0, k17m1]
  instanceTypes := #[.int]
  staticTypes := #[.int, .int, (.object "java/lang/Class"), (.array .char), (.array .byte), (.array .byte), .int, .int, .long]
  resolved := Array.replicate 453 none
  statics := some 1 }

def pool18 : Array CpInfo := pool [(2, .class_ 4), (1, u "java/lang/Object"), (0, u "<init>"), (0, u "()V"), (7, .class_ 16), (1, u "java/util/Arrays"), (57, .class_ 76), (1, u "java/util/Arrays$NaturalOrder"), (36, .class_ 115), (1, u "java/util/Arrays$LegacyMergeSort"), (1, u "Z"), (21, u "copyOfRange"), (10, .methodref 151 152), (0, .class_ 153), (0, .nameAndType 154 155), (0, u "java/lang/System"), (0, u "arraycopy"), (0, u "(Ljava/lang/Object;ILjava/lang/Object;II)V"), (148, .methodref 305 306), (0, .class_ 307), (0, .nameAndType 308 309), (0, u "java/lang/Math"), (0, u "min"), (0, u "(II)I"), (29, .methodref 14 340), (0, .nameAndType 341 342), (0, u "copyOfRangeByte"), (0, u "([BII)[B"), (0, .methodref 14 344), (0, .nameAndType 345 346), (0, u "checkLength"), (0, u "(II)V"), (28, .class_ 376), (0, u "java/util/Arrays$ArrayList"), (68, u "$assertionsDisabled"), (269, u "MIN_ARRAY_SORT_GRAN"), (0, u "I"), (2, u "INSERTIONSORT_THRESHOLD"), (255, .class_ 976), (0, u "java/util/Arrays$ArrayItr")] 52

def k18m0 : Method := { name := "<init>", desc := "()V", sig := { parameters := [], returnType := none }, accessFlags := 2, code := none }
def k18c1 : Code := { maxStack := 4, maxLocals := 2, code := jdk_65_method_131_code, exceptionTable := #[], attributes := #[] }
def k18m1 : Method := { name := "checkLength", desc := "(II)V", sig := { parameters := [.int, .int], returnType := none }, accessFlags := 10, code := some k18c1 }
def k18c2 : Code := { maxStack := 3, maxLocals := 3, code := jdk_65_method_132_code, exceptionTable := #[], attributes := #[] }
def k18m2 : Method := { name := "copyOfRange", desc := "([BII)[B", sig := { parameters := [(.array .byte), .int, .int], returnType := some (.array .byte) }, accessFlags := 9, code := some k18c2 }
def k18c3 : Code := { maxStack := 6, maxLocals := 5, code := jdk_65_method_133_code, exceptionTable := #[], attributes := #[] }
def k18m3 : Method := { name := "copyOfRangeByte", desc := "([BII)[B", sig := { parameters := [(.array .byte), .int, .int], returnType := some (.array .byte) }, accessFlags := 10, code := some k18c3 }
/-- java/util/Arrays -/
def k18 : Class := { plain "java/util/Arrays" (some 0) with
  accessFlags := 49
  interfaces := #[]
  cf := some (fileOf pool18 14 #[.nestMembers #[975, 375, 113, 74]] #[{ accessFlags := 2, nameIndex := 5, descriptorIndex := 6, attributes := #[] }, { accessFlags := 10, nameIndex := 345, descriptorIndex := 346, attributes := #[] }, { accessFlags := 9, nameIndex := 139, descriptorIndex := 342, attributes := #[] }, { accessFlags := 10, nameIndex := 341, descriptorIndex := 342, attributes := #[] }] 49 2 #[] #[{ accessFlags := 26, nameIndex := 715, descriptorIndex := 716, attributes := #[] }, { accessFlags := 26, nameIndex := 719, descriptorIndex := 716, attributes := #[] }, { accessFlags := 4120, nameIndex := 445, descriptorIndex := 117, attributes := #[] }])
  fields := #[{ name := "MIN_ARRAY_SORT_GRAN", type := .int, accessFlags := 26, slot := 0, constantValue := 0 }, { name := "INSERTIONSORT_THRESHOLD", type := .int, accessFlags := 26, slot := 1, constantValue := 0 }, { name := "$assertionsDisabled", type := .boolean, accessFlags := 4120, slot := 2, constantValue := 0 }]
  methods := #[k18m0, k18m1, k18m2, k18m3]
  instanceTypes := #[]
  staticTypes := #[.int, .int, .boolean]
  resolved := Array.replicate 1029 none
  statics := none }

def pool19 : Array CpInfo := pool [(1, .class_ 2), (0, u "java/lang/Math"), (1, .class_ 6), (1, u "java/lang/Object"), (0, u "<init>"), (0, u "()V"), (89, .class_ 100), (1, u "java/lang/Math$RandomNumberGeneratorHolder"), (23, u "abs"), (0, u "(J)J"), (46, u "negativeZeroFloatBits"), (0, u "J"), (2, u "negativeZeroDoubleBits"), (24, u "min"), (43, u "$assertionsDisabled"), (0, u "Z"), (88, u "(II)I"), (2, u "twoToTheDoubleScaleDown"), (0, u "D"), (4, u "twoToTheDoubleScaleUp"), (9, u "E"), (3, u "PI"), (2, u "TAU"), (2, u "DEGREES_TO_RADIANS"), (0, u "RADIANS_TO_DEGREES")] 94

def k19m0 : Method := { name := "<init>", desc := "()V", sig := { parameters := [], returnType := none }, accessFlags := 2, code := none }
def k19c1 : Code := { maxStack := 4, maxLocals := 2, code := jdk_29_method_61_code, exceptionTable := #[], attributes := #[] }
def k19m1 : Method := { name := "abs", desc := "(J)J", sig := { parameters := [.long], returnType := some .long }, accessFlags := 9, code := some k19c1 }
def k19c2 : Code := { maxStack := 2, maxLocals := 2, code := jdk_29_method_69_code, exceptionTable := #[], attributes := #[] }
def k19m2 : Method := { name := "min", desc := "(II)I", sig := { parameters := [.int, .int], returnType := some .int }, accessFlags := 9, code := some k19c2 }
/-- java/lang/Math -/
def k19 : Class := { plain "java/lang/Math" (some 0) with
  accessFlags := 49
  interfaces := #[]
  cf := some (fileOf pool19 1 #[.nestMembers #[98]] #[{ accessFlags := 2, nameIndex := 7, descriptorIndex := 8, attributes := #[] }, { accessFlags := 9, nameIndex := 124, descriptorIndex := 125, attributes := #[] }, { accessFlags := 9, nameIndex := 201, descriptorIndex := 335, attributes := #[] }] 49 4 #[] #[{ accessFlags := 25, nameIndex := 354, descriptorIndex := 339, attributes := #[] }, { accessFlags := 25, nameIndex := 358, descriptorIndex := 339, attributes := #[] }, { accessFlags := 25, nameIndex := 361, descriptorIndex := 339, attributes := #[] }, { accessFlags := 26, nameIndex := 364, descriptorIndex := 339, attributes := #[] }, { accessFlags := 26, nameIndex := 365, descriptorIndex := 339, attributes := #[] }, { accessFlags := 26, nameIndex := 172, descriptorIndex := 173, attributes := #[] }, { accessFlags := 26, nameIndex := 176, descriptorIndex := 173, attributes := #[] }, { accessFlags := 8, nameIndex := 344, descriptorIndex := 339, attributes := #[] }, { accessFlags := 8, nameIndex := 338, descriptorIndex := 339, attributes := #[] }, { accessFlags := 4120, nameIndex := 245, descriptorIndex := 246, attributes := #[] }])
  fields := #[{ name := "E", type := .double, accessFlags := 25, slot := 0, constantValue := 0 }, { name := "PI", type := .double, accessFlags := 25, slot := 1, constantValue := 0 }, { name := "TAU", type := .double, accessFlags := 25, slot := 2, constantValue := 0 }, { name := "DEGREES_TO_RADIANS", type := .double, accessFlags := 26, slot := 3, constantValue := 0 }, { name := "RADIANS_TO_DEGREES", type := .double, accessFlags := 26, slot := 4, constantValue := 0 }, { name := "negativeZeroFloatBits", type := .long, accessFlags := 26, slot := 5, constantValue := 0 }, { name := "negativeZeroDoubleBits", type := .long, accessFlags := 26, slot := 6, constantValue := 0 }, { name := "twoToTheDoubleScaleUp", type := .double, accessFlags := 8, slot := 7, constantValue := 0 }, { name := "twoToTheDoubleScaleDown", type := .double, accessFlags := 8, slot := 8, constantValue := 0 }, { name := "$assertionsDisabled", type := .boolean, accessFlags := 4120, slot := 9, constantValue := 0 }]
  methods := #[k19m0, k19m1, k19m2]
  instanceTypes := #[]
  staticTypes := #[.double, .double, .double, .double, .double, .long, .long, .double, .double, .boolean]
  resolved := Array.replicate 460 none
  statics := none }

def pool20 : Array CpInfo := pool [(1, .class_ 2), (0, u "java/lang/String"), (1, .class_ 6), (1, u "java/lang/Object"), (0, u "<init>"), (0, u "()V"), (0, .methodref 1 10), (0, .nameAndType 11 12), (0, u "checkIndex"), (0, u "(II)V"), (1, .class_ 16), (1, u "java/lang/StringLatin1"), (36, u "([BI)C"), (67, u "$assertionsDisabled"), (0, u "Z"), (98, .class_ 223), (1, u "java/lang/StringLatin1$LinesSpliterator"), (28, u "charAt"), (137, .class_ 391), (0, u "java/lang/StringLatin1$CharsSpliterator")] 3

def k20m0 : Method := { name := "<init>", desc := "()V", sig := { parameters := [], returnType := none }, accessFlags := 0, code := none }
def k20c1 : Code := { maxStack := 2, maxLocals := 2, code := jdk_43_method_2_code, exceptionTable := #[], attributes := #[] }
def k20m1 : Method := { name := "charAt", desc := "([BI)C", sig := { parameters := [(.array .byte), .int], returnType := some .char }, accessFlags := 9, code := some k20c1 }
/-- java/lang/StringLatin1 -/
def k20 : Class := { plain "java/lang/StringLatin1" (some 0) with
  accessFlags := 48
  interfaces := #[]
  cf := some (fileOf pool20 14 #[.nestMembers #[390, 221]] #[{ accessFlags := 0, nameIndex := 7, descriptorIndex := 8, attributes := #[] }, { accessFlags := 9, nameIndex := 252, descriptorIndex := 53, attributes := #[] }] 48 4 #[] #[{ accessFlags := 4120, nameIndex := 121, descriptorIndex := 122, attributes := #[] }])
  fields := #[{ name := "$assertionsDisabled", type := .boolean, accessFlags := 4120, slot := 0, constantValue := 0 }]
  methods := #[k20m0, k20m1]
  instanceTypes := #[]
  staticTypes := #[.boolean]
  resolved := Array.replicate 395 none
  statics := none }

def pool21 : Array CpInfo := pool [(2, .class_ 4), (1, u "java/lang/Object"), (0, u "<init>"), (0, u "()V"), (17, .class_ 26), (1, u "jdk/internal/util/Preconditions"), (6, u "checkIndex"), (21, .class_ 56), (0, u "jdk/internal/util/Preconditions$4"), (57, .class_ 115), (0, u "jdk/internal/util/Preconditions$1"), (7, u "SIOOBE_FORMATTER"), (0, u "Ljava/util/function/BiFunction;"), (0, .class_ 126), (0, u "jdk/internal/util/Preconditions$2"), (3, u "AIOOBE_FORMATTER"), (0, .class_ 132), (0, u "jdk/internal/util/Preconditions$3"), (3, u "IOOBE_FORMATTER"), (41, u "(IILjava/util/function/BiFunction;)I")] 15

def k21m0 : Method := { name := "<init>", desc := "()V", sig := { parameters := [], returnType := none }, accessFlags := 1, code := none }
def k21c1 : Code := { maxStack := 3, maxLocals := 3, code := jdk_41_method_11_code, exceptionTable := #[], attributes := #[] }
def k21m1 : Method := { name := "checkIndex", desc := "(IILjava/util/function/BiFunction;)I", sig := { parameters := [.int, .int, (.object "java/util/function/BiFunction")], returnType := some .int }, accessFlags := 9, code := some k21c1 }
/-- jdk/internal/util/Preconditions -/
def k21 : Class := { plain "jdk/internal/util/Preconditions" (some 0) with
  accessFlags := 33
  interfaces := #[]
  cf := some (fileOf pool21 24 #[.nestMembers #[55, 131, 125, 114]] #[{ accessFlags := 1, nameIndex := 5, descriptorIndex := 6, attributes := #[] }, { accessFlags := 9, nameIndex := 33, descriptorIndex := 178, attributes := #[] }] 33 2 #[] #[{ accessFlags := 25, nameIndex := 123, descriptorIndex := 124, attributes := #[] }, { accessFlags := 25, nameIndex := 130, descriptorIndex := 124, attributes := #[] }, { accessFlags := 25, nameIndex := 136, descriptorIndex := 124, attributes := #[] }])
  fields := #[{ name := "SIOOBE_FORMATTER", type := (.object "java/util/function/BiFunction"), accessFlags := 25, slot := 0, constantValue := 0 }, { name := "AIOOBE_FORMATTER", type := (.object "java/util/function/BiFunction"), accessFlags := 25, slot := 1, constantValue := 0 }, { name := "IOOBE_FORMATTER", type := (.object "java/util/function/BiFunction"), accessFlags := 25, slot := 2, constantValue := 0 }]
  methods := #[k21m0, k21m1]
  instanceTypes := #[]
  staticTypes := #[(.object "java/util/function/BiFunction"), (.object "java/util/function/BiFunction"), (.object "java/util/function/BiFunction")]
  resolved := Array.replicate 194 none
  statics := some 2 }

def pool22 : Array CpInfo := pool [(9, u "<init>"), (6, .class_ 18), (1, u "java/lang/Object"), (0, u "()V"), (1, .class_ 23), (1, u "jdk/internal/util/ArraysSupport"), (0, u "LOG2_ARRAY_LONG_INDEX_SCALE"), (0, u "I"), (2, u "U"), (0, u "Ljdk/internal/misc/Unsafe;"), (8, u "BIG_ENDIAN"), (0, u "Z"), (8, u "LOG2_BYTE_BIT_SIZE"), (4, u "LOG2_ARRAY_INT_INDEX_SCALE"), (54, u "JLA"), (0, u "Ljdk/internal/access/JavaLangAccess;"), (11, u "LOG2_ARRAY_BOOLEAN_INDEX_SCALE"), (9, u "LOG2_ARRAY_BYTE_INDEX_SCALE"), (5, u "LOG2_ARRAY_CHAR_INDEX_SCALE"), (5, u "LOG2_ARRAY_SHORT_INDEX_SCALE"), (18, u "LOG2_ARRAY_FLOAT_INDEX_SCALE"), (24, u "LOG2_ARRAY_DOUBLE_INDEX_SCALE"), (89, u "T_BOOLEAN"), (2, u "T_CHAR"), (1, u "T_FLOAT"), (1, u "T_DOUBLE"), (1, u "T_BYTE"), (1, u "T_SHORT"), (1, u "T_INT"), (1, u "T_LONG"), (1, u "SOFT_MAX_ARRAY_LENGTH")] 83

def k22m0 : Method := { name := "<init>", desc := "()V", sig := { parameters := [], returnType := none }, accessFlags := 2, code := none }
/-- jdk/internal/util/ArraysSupport -/
def k22 : Class := { plain "jdk/internal/util/ArraysSupport" (some 0) with
  accessFlags := 33
  interfaces := #[]
  cf := some (fileOf pool22 21 #[] #[{ accessFlags := 2, nameIndex := 9, descriptorIndex := 19, attributes := #[] }] 33 16 #[] #[{ accessFlags := 24, nameIndex := 28, descriptorIndex := 29, attributes := #[] }, { accessFlags := 26, nameIndex := 38, descriptorIndex := 39, attributes := #[] }, { accessFlags := 25, nameIndex := 121, descriptorIndex := 25, attributes := #[] }, { accessFlags := 25, nameIndex := 131, descriptorIndex := 25, attributes := #[] }, { accessFlags := 25, nameIndex := 137, descriptorIndex := 25, attributes := #[] }, { accessFlags := 25, nameIndex := 143, descriptorIndex := 25, attributes := #[] }, { accessFlags := 25, nameIndex := 53, descriptorIndex := 25, attributes := #[] }, { accessFlags := 25, nameIndex := 24, descriptorIndex := 25, attributes := #[] }, { accessFlags := 25, nameIndex := 162, descriptorIndex := 25, attributes := #[] }, { accessFlags := 25, nameIndex := 187, descriptorIndex := 25, attributes := #[] }, { accessFlags := 26, nameIndex := 48, descriptorIndex := 25, attributes := #[] }, { accessFlags := 25, nameIndex := 277, descriptorIndex := 25, attributes := #[] }, { accessFlags := 25, nameIndex := 280, descriptorIndex := 25, attributes := #[] }, { accessFlags := 25, nameIndex := 282, descriptorIndex := 25, attributes := #[] }, { accessFlags := 25, nameIndex := 284, descriptorIndex := 25, attributes := #[] }, { accessFlags := 25, nameIndex := 286, descriptorIndex := 25, attributes := #[] }, { accessFlags := 25, nameIndex := 288, descriptorIndex := 25, attributes := #[] }, { accessFlags := 25, nameIndex := 290, descriptorIndex := 25, attributes := #[] }, { accessFlags := 25, nameIndex := 292, descriptorIndex := 25, attributes := #[] }, { accessFlags := 26, nameIndex := 108, descriptorIndex := 109, attributes := #[] }, { accessFlags := 25, nameIndex := 294, descriptorIndex := 25, attributes := #[] }])
  fields := #[{ name := "U", type := (.object "jdk/internal/misc/Unsafe"), accessFlags := 24, slot := 0, constantValue := 0 }, { name := "BIG_ENDIAN", type := .boolean, accessFlags := 26, slot := 1, constantValue := 0 }, { name := "LOG2_ARRAY_BOOLEAN_INDEX_SCALE", type := .int, accessFlags := 25, slot := 2, constantValue := 0 }, { name := "LOG2_ARRAY_BYTE_INDEX_SCALE", type := .int, accessFlags := 25, slot := 3, constantValue := 0 }, { name := "LOG2_ARRAY_CHAR_INDEX_SCALE", type := .int, accessFlags := 25, slot := 4, constantValue := 0 }, { name := "LOG2_ARRAY_SHORT_INDEX_SCALE", type := .int, accessFlags := 25, slot := 5, constantValue := 0 }, { name := "LOG2_ARRAY_INT_INDEX_SCALE", type := .int, accessFlags := 25, slot := 6, constantValue := 0 }, { name := "LOG2_ARRAY_LONG_INDEX_SCALE", type := .int, accessFlags := 25, slot := 7, constantValue := 0 }, { name := "LOG2_ARRAY_FLOAT_INDEX_SCALE", type := .int, accessFlags := 25, slot := 8, constantValue := 0 }, { name := "LOG2_ARRAY_DOUBLE_INDEX_SCALE", type := .int, accessFlags := 25, slot := 9, constantValue := 0 }, { name := "LOG2_BYTE_BIT_SIZE", type := .int, accessFlags := 26, slot := 10, constantValue := 0 }, { name := "T_BOOLEAN", type := .int, accessFlags := 25, slot := 11, constantValue := 0 }, { name := "T_CHAR", type := .int, accessFlags := 25, slot := 12, constantValue := 0 }, { name := "T_FLOAT", type := .int, accessFlags := 25, slot := 13, constantValue := 0 }, { name := "T_DOUBLE", type := .int, accessFlags := 25, slot := 14, constantValue := 0 }, { name := "T_BYTE", type := .int, accessFlags := 25, slot := 15, constantValue := 0 }, { name := "T_SHORT", type := .int, accessFlags := 25, slot := 16, constantValue := 0 }, { name := "T_INT", type := .int, accessFlags := 25, slot := 17, constantValue := 0 }, { name := "T_LONG", type := .int, accessFlags := 25, slot := 18, constantValue := 0 }, { name := "JLA", type := (.object "jdk/internal/access/JavaLangAccess"), accessFlags := 26, slot := 19, constantValue := 0 }, { name := "SOFT_MAX_ARRAY_LENGTH", type := .int, accessFlags := 25, slot := 20, constantValue := 0 }]
  methods := #[k22m0]
  instanceTypes := #[]
  staticTypes := #[(.object "jdk/internal/misc/Unsafe"), .boolean, .int, .int, .int, .int, .int, .int, .int, .int, .int, .int, .int, .int, .int, .int, .int, .int, .int, (.object "jdk/internal/access/JavaLangAccess"), .int]
  resolved := Array.replicate 378 none
  statics := none }

def pool23 : Array CpInfo := pool [(1, u "java/lang/Cloneable"), (0, .class_ 1), (0, u "java/lang/Object"), (0, .class_ 3)] 3

/-- java/lang/Cloneable -/
def k23 : Class := { plain "java/lang/Cloneable" (some 0) with
  accessFlags := 1537
  interfaces := #[]
  cf := some (fileOf pool23 2 #[] #[] 1537 4 #[] #[])
  fields := #[]
  methods := #[]
  instanceTypes := #[]
  staticTypes := #[]
  resolved := Array.replicate 8 none
  statics := none }

/-- the primitive byte -/
def k24 : Class := { plain "byte" none with kind := .primitive 'B', accessFlags := 0x411 }
/-- [B -/
def k25 : Class := { plain "[B" (some 0) with kind := .array 24 .byte, interfaces := #[23, 2], accessFlags := 1041 }

/-- the primitive char -/
def k26 : Class := { plain "char" none with kind := .primitive 'C', accessFlags := 0x411 }
/-- [C -/
def k27 : Class := { plain "[C" (some 0) with kind := .array 26 .char, interfaces := #[23, 2], accessFlags := 1041 }

/-- the primitive int -/
def k28 : Class := { plain "int" none with kind := .primitive 'I', accessFlags := 0x411 }
/-- [I -/
def k29 : Class := { plain "[I" (some 0) with kind := .array 28 .int, interfaces := #[23, 2], accessFlags := 1041 }

/-- the primitive long -/
def k30 : Class := { plain "long" none with kind := .primitive 'J', accessFlags := 0x411 }
/-- [J -/
def k31 : Class := { plain "[J" (some 0) with kind := .array 30 .long, interfaces := #[23, 2], accessFlags := 1041 }

def heap : Heap := #[{ cls := 7, slots := #[.long 0, .int 1, .null, .int 0, .null, .int 0, .int 0], vm := .statics 7 },
  { cls := 17, slots := #[.int 0, .int 0, .null, .null, .ref 4, .ref 3, .int 0, .int 0, .long 0], vm := .statics 17 },
  { cls := 21, slots := #[.null, .null, .null], vm := .statics 21 },
  { cls := 25, slots := #[.int 48, .int 49, .int 50, .int 51, .int 52, .int 53, .int 54, .int 55, .int 56, .int 57, .int 48, .int 49, .int 50, .int 51, .int 52, .int 53, .int 54, .int 55, .int 56, .int 57, .int 48, .int 49, .int 50, .int 51, .int 52, .int 53, .int 54, .int 55, .int 56, .int 57, .int 48, .int 49, .int 50, .int 51, .int 52, .int 53, .int 54, .int 55, .int 56, .int 57, .int 48, .int 49, .int 50, .int 51, .int 52, .int 53, .int 54, .int 55, .int 56, .int 57, .int 48, .int 49, .int 50, .int 51, .int 52, .int 53, .int 54, .int 55, .int 56, .int 57, .int 48, .int 49, .int 50, .int 51, .int 52, .int 53, .int 54, .int 55, .int 56, .int 57, .int 48, .int 49, .int 50, .int 51, .int 52, .int 53, .int 54, .int 55, .int 56, .int 57, .int 48, .int 49, .int 50, .int 51, .int 52, .int 53, .int 54, .int 55, .int 56, .int 57, .int 48, .int 49, .int 50, .int 51, .int 52, .int 53, .int 54, .int 55, .int 56, .int 57], vm := .none },
  { cls := 25, slots := #[.int 48, .int 48, .int 48, .int 48, .int 48, .int 48, .int 48, .int 48, .int 48, .int 48, .int 49, .int 49, .int 49, .int 49, .int 49, .int 49, .int 49, .int 49, .int 49, .int 49, .int 50, .int 50, .int 50, .int 50, .int 50, .int 50, .int 50, .int 50, .int 50, .int 50, .int 51, .int 51, .int 51, .int 51, .int 51, .int 51, .int 51, .int 51, .int 51, .int 51, .int 52, .int 52, .int 52, .int 52, .int 52, .int 52, .int 52, .int 52, .int 52, .int 52, .int 53, .int 53, .int 53, .int 53, .int 53, .int 53, .int 53, .int 53, .int 53, .int 53, .int 54, .int 54, .int 54, .int 54, .int 54, .int 54, .int 54, .int 54, .int 54, .int 54, .int 55, .int 55, .int 55, .int 55, .int 55, .int 55, .int 55, .int 55, .int 55, .int 55, .int 56, .int 56, .int 56, .int 56, .int 56, .int 56, .int 56, .int 56, .int 56, .int 56, .int 57, .int 57, .int 57, .int 57, .int 57, .int 57, .int 57, .int 57, .int 57, .int 57], vm := .none }]
def classes : Array Class := #[k0, k1, k2, k3, k4, k5, k6, k7, k8, k9, k10, k11, k12, k13, k14, k15, k16, k17, k18, k19, k20, k21, k22, k23, k24, k25, k26, k27, k28, k29, k30, k31]
def interned : List (Array UInt16 × Addr) := []
def slotsUsed : Nat := 219
def theMethod : MethodId := ⟨1, 1⟩
def args0 : Array Value := #[.int 1, .int 1, .int 5]
def aboutOver (below : List Frame) : State where
  vm := { classes := classes, interned := interned.toArray }
  heap := heap
  slotsUsed := slotsUsed
  threads := #[{ frames := .invoking theMethod args0 :: below }]
def below0 : List Frame := [.native { method := ⟨0, 0⟩, args := #[] }]
def about1 : State := aboutOver below0
def p0 : Program := .bare "" "" ""
def e0 : Env := launch0.env 0 0 0
theorem w_frames : about1.frames = Frame.invoking theMethod args0 :: below0 := rfl
set_option maxRecDepth 65536 in
theorem w_args : argsFit about1.vm theMethod args0 = true := by decide +kernel
set_option maxRecDepth 65536 in
theorem w_heap : heapFits about1 = true := by decide +kernel
set_option maxRecDepth 65536 in
theorem w_runnable : about1.curStatus? = some .runnable := by decide +kernel
set_option maxRecDepth 65536 in
theorem w_alone : about1.alone = true := by decide +kernel
set_option maxRecDepth 65536 in
theorem w_named : about1.methodNamed? x = some theMethod := by decide +kernel
set_option maxRecDepth 65536 in
theorem w_hears : about1.hears theMethod below0 = true := by decide +kernel
set_option maxRecDepth 65536 in
theorem w_ripe : about1.ripe theMethod args0 below0 = true := by decide +kernel
theorem w_running : about1.status = .running := rfl
set_option maxRecDepth 65536 in
theorem w_room : about1.hasRoom e0.platform room_1 = true :=
  launch0.hasRoom_least _ room_1 (by decide +kernel) (by decide +kernel) (by decide +kernel) (by decide +kernel) (by decide +kernel) (by decide +kernel)
theorem allAtoms_all (ts : List Jvm.Cond) (a : Array Jvm.Value) (st : Jvm.State) : (allAtoms ts).before a st = ts.all (fun c => c.before a st) := by
  induction ts with
  | nil => rfl
  | cons c t ih =>
    show (Jvm.Cond.and c (allAtoms t)).before a st = _
    rw [Jvm.Cond.before_and, ih, List.all_cons]
def words1 : List Jvm.Cond := Jvm.Cond.code x code maxLocals ret :: tables_1
/-- a 'code' word, met by the world's own term for the bytes: nothing is compared byte by byte -/
theorem code_word {y : MethodName} {bytes : ByteArray} {mx : Nat} {rt : Option FieldType} {a : Array Value} {s : State} {m : MethodId} {meth : Method} {c : Code} (h1 : s.methodNamed? y = some m) (h2 : s.vm.method? m = some meth) (h3 : meth.code = some c) (h4 : c.code = bytes)
    (h5 : (c.maxLocals == mx && c.exceptionTable.isEmpty && decide (c.maxStack ≤ mostOperands) && decide (meth.sig.returnType = rt) && !meth.locks && decide (parseMethodDescriptor y.desc = some meth.sig)) = true) : (Jvm.Cond.code y bytes mx rt).before a s = true := by
  simp only [Bool.and_eq_true, beq_iff_eq, Bool.not_eq_true', decide_eq_true_eq] at h5
  obtain ⟨⟨⟨⟨⟨g1, g2⟩, g3⟩, g4⟩, g5⟩, g6⟩ := h5
  simp [Cond.before, Cond.holds, Cond.value, h1, h2, h3, h4, g1, g2, g3, g4, g5, g6]
def isCode : Jvm.Cond → Bool
  | .code _ _ _ _ => true
  | _ => false
theorem all_split {L : List Jvm.Cond} {P : Jvm.Cond → Bool} (h1 : L.all (fun c => isCode c || P c) = true) (h2 : ∀ c ∈ L.filter isCode, P c = true) : L.all P = true := by
  refine List.all_eq_true.mpr fun c hc => ?_
  have h := List.all_eq_true.mp h1 c hc
  rcases Bool.eq_false_or_eq_true (isCode c) with hi | hi
  · exact h2 c (List.mem_filter.mpr ⟨hc, hi⟩)
  · simpa [hi] using h
set_option maxRecDepth 65536 in
theorem w_c0 : (Jvm.Cond.code x code maxLocals ret).before args0 about1 = true := code_word (m := ⟨1, 1⟩) (meth := k1m1) (c := k1c1) (by decide +kernel) rfl rfl rfl (by decide +kernel)
set_option maxRecDepth 65536 in
theorem w_c1 : (Jvm.Cond.code ({ cls := "java/lang/String", name := "<init>", desc := "([C)V" } : Jvm.MethodName) jdk_42_method_3_code (2 : Nat) (Option.none : Option Jvm.ClassFile.FieldType)).before args0 about1 = true := code_word (m := ⟨7, 1⟩) (meth := k7m1) (c := k7c1) (by decide +kernel) rfl rfl rfl (by decide +kernel)
set_option maxRecDepth 65536 in
theorem w_c2 : (Jvm.Cond.code ({ cls := "java/lang/String", name := "<init>", desc := "([CIILjava/lang/Void;)V" } : Jvm.MethodName) jdk_42_method_149_code (6 : Nat) (Option.none : Option Jvm.ClassFile.FieldType)).before args0 about1 = true := code_word (m := ⟨7, 6⟩) (meth := k7m6) (c := k7c6) (by decide +kernel) rfl rfl rfl (by decide +kernel)
set_option maxRecDepth 65536 in
theorem w_c3 : (Jvm.Cond.code ({ cls := "java/lang/Object", name := "<init>", desc := "()V" } : Jvm.MethodName) object_method_1_code (1 : Nat) (Option.none : Option Jvm.ClassFile.FieldType)).before args0 about1 = true := code_word (m := ⟨0, 0⟩) (meth := k0m0) (c := k0c0) (by decide +kernel) rfl rfl rfl (by decide +kernel)
set_option maxRecDepth 65536 in
theorem w_c4 : (Jvm.Cond.code ({ cls := "java/lang/StringUTF16", name := "compress", desc := "([CII)[B" } : Jvm.MethodName) jdk_52_method_16_code (6 : Nat) (Option.some (Jvm.ClassFile.FieldType.array Jvm.ClassFile.FieldType.byte))).before args0 about1 = true := code_word (m := ⟨8, 2⟩) (meth := k8m2) (c := k8c2) (by decide +kernel) rfl rfl rfl (by decide +kernel)
set_option maxRecDepth 65536 in
theorem w_c5 : (Jvm.Cond.code ({ cls := "java/lang/StringUTF16", name := "compress", desc := "([CI[BII)I" } : Jvm.MethodName) jdk_52_method_21_code (7 : Nat) (Option.some Jvm.ClassFile.FieldType.int)).before args0 about1 = true := code_word (m := ⟨8, 3⟩) (meth := k8m3) (c := k8c3) (by decide +kernel) rfl rfl rfl (by decide +kernel)
set_option maxRecDepth 65536 in
theorem w_c6 : (Jvm.Cond.code ({ cls := "java/lang/StringUTF16", name := "coderFromArrayLen", desc := "([BI)B" } : Jvm.MethodName) jdk_52_method_15_code (2 : Nat) (Option.some Jvm.ClassFile.FieldType.byte)).before args0 about1 = true := code_word (m := ⟨8, 1⟩) (meth := k8m1) (c := k8c1) (by decide +kernel) rfl rfl rfl (by decide +kernel)
set_option maxRecDepth 65536 in
theorem w_c7 : (Jvm.Cond.code ({ cls := "com/example/tight_bound/tightbound/HeapObject", name := "<init>", desc := "(Ljava/lang/String;I)V" } : Jvm.MethodName) prog_10_method_1_code (3 : Nat) (Option.none : Option Jvm.ClassFile.FieldType)).before args0 about1 = true := code_word (m := ⟨11, 0⟩) (meth := k11m0) (c := k11c0) (by decide +kernel) rfl rfl rfl (by decide +kernel)
set_option maxRecDepth 65536 in
theorem w_c8 : (Jvm.Cond.code ({ cls := "java/lang/Record", name := "<init>", desc := "()V" } : Jvm.MethodName) jdk_30_method_1_code (1 : Nat) (Option.none : Option Jvm.ClassFile.FieldType)).before args0 about1 = true := code_word (m := ⟨9, 0⟩) (meth := k9m0) (c := k9c0) (by decide +kernel) rfl rfl rfl (by decide +kernel)
set_option maxRecDepth 65536 in
theorem w_c9 : (Jvm.Cond.code ({ cls := "com/example/tight_bound/tightbound/HeapObject", name := "toString", desc := "()Ljava/lang/String;" } : Jvm.MethodName) prog_10_method_2_code (1 : Nat) (Option.some (Jvm.ClassFile.FieldType.object "java/lang/String"))).before args0 about1 = true := code_word (m := ⟨11, 1⟩) (meth := k11m1) (c := k11c1) (by decide +kernel) rfl rfl rfl (by decide +kernel)
set_option maxRecDepth 65536 in
theorem w_c10 : (Jvm.Cond.code ({ cls := "java/lang/StringBuilder", name := "<init>", desc := "()V" } : Jvm.MethodName) jdk_67_method_1_code (1 : Nat) (Option.none : Option Jvm.ClassFile.FieldType)).before args0 about1 = true := code_word (m := ⟨14, 0⟩) (meth := k14m0) (c := k14c0) (by decide +kernel) rfl rfl rfl (by decide +kernel)
set_option maxRecDepth 65536 in
theorem w_c11 : (Jvm.Cond.code ({ cls := "java/lang/AbstractStringBuilder", name := "<init>", desc := "(I)V" } : Jvm.MethodName) jdk_68_method_2_code (2 : Nat) (Option.none : Option Jvm.ClassFile.FieldType)).before args0 about1 = true := code_word (m := ⟨13, 1⟩) (meth := k13m1) (c := k13c1) (by decide +kernel) rfl rfl rfl (by decide +kernel)
set_option maxRecDepth 65536 in
theorem w_c12 : (Jvm.Cond.code ({ cls := "java/lang/StringBuilder", name := "append", desc := "(Ljava/lang/String;)Ljava/lang/StringBuilder;" } : Jvm.MethodName) jdk_67_method_7_code (2 : Nat) (Option.some (Jvm.ClassFile.FieldType.object "java/lang/StringBuilder"))).before args0 about1 = true := code_word (m := ⟨14, 1⟩) (meth := k14m1) (c := k14c1) (by decide +kernel) rfl rfl rfl (by decide +kernel)
set_option maxRecDepth 65536 in
theorem w_c13 : (Jvm.Cond.code ({ cls := "java/lang/AbstractStringBuilder", name := "append", desc := "(Ljava/lang/String;)Ljava/lang/AbstractStringBuilder;" } : Jvm.MethodName) jdk_68_method_22_code (3 : Nat) (Option.some (Jvm.ClassFile.FieldType.object "java/lang/AbstractStringBuilder"))).before args0 about1 = true := code_word (m := ⟨13, 4⟩) (meth := k13m4) (c := k13c4) (by decide +kernel) rfl rfl rfl (by decide +kernel)
set_option maxRecDepth 65536 in
theorem w_c14 : (Jvm.Cond.code ({ cls := "java/lang/String", name := "length", desc := "()I" } : Jvm.MethodName) jdk_42_method_54_code (1 : Nat) (Option.some Jvm.ClassFile.FieldType.int)).before args0 about1 = true := code_word (m := ⟨7, 3⟩) (meth := k7m3) (c := k7c3) (by decide +kernel) rfl rfl rfl (by decide +kernel)
set_option maxRecDepth 65536 in
theorem w_c15 : (Jvm.Cond.code ({ cls := "java/lang/String", name := "coder", desc := "()B" } : Jvm.MethodName) jdk_42_method_152_code (1 : Nat) (Option.some Jvm.ClassFile.FieldType.byte)).before args0 about1 = true := code_word (m := ⟨7, 8⟩) (meth := k7m8) (c := k7c8) (by decide +kernel) rfl rfl rfl (by decide +kernel)
set_option maxRecDepth 65536 in
theorem w_c16 : (Jvm.Cond.code ({ cls := "java/lang/AbstractStringBuilder", name := "ensureCapacityInternal", desc := "(I)V" } : Jvm.MethodName) jdk_68_method_9_code (3 : Nat) (Option.none : Option Jvm.ClassFile.FieldType)).before args0 about1 = true := code_word (m := ⟨13, 3⟩) (meth := k13m3) (c := k13c3) (by decide +kernel) rfl rfl rfl (by decide +kernel)
set_option maxRecDepth 65536 in
theorem w_c17 : (Jvm.Cond.code ({ cls := "java/lang/AbstractStringBuilder", name := "putStringAt", desc := "(ILjava/lang/String;)V" } : Jvm.MethodName) jdk_68_method_73_code (3 : Nat) (Option.none : Option Jvm.ClassFile.FieldType)).before args0 about1 = true := code_word (m := ⟨13, 9⟩) (meth := k13m9) (c := k13c9) (by decide +kernel) rfl rfl rfl (by decide +kernel)
set_option maxRecDepth 65536 in
theorem w_c18 : (Jvm.Cond.code ({ cls := "java/lang/AbstractStringBuilder", name := "inflateIfNeededFor", desc := "(Ljava/lang/String;)V" } : Jvm.MethodName) jdk_68_method_71_code (2 : Nat) (Option.none : Option Jvm.ClassFile.FieldType)).before args0 about1 = true := code_word (m := ⟨13, 8⟩) (meth := k13m8) (c := k13c8) (by decide +kernel) rfl rfl rfl (by decide +kernel)
set_option maxRecDepth 65536 in
theorem w_c19 : (Jvm.Cond.code ({ cls := "java/lang/String", name := "getBytes", desc := "([BIB)V" } : Jvm.MethodName) jdk_42_method_147_code (4 : Nat) (Option.none : Option Jvm.ClassFile.FieldType)).before args0 about1 = true := code_word (m := ⟨7, 5⟩) (meth := k7m5) (c := k7c5) (by decide +kernel) rfl rfl rfl (by decide +kernel)
set_option maxRecDepth 65536 in
theorem w_c20 : (Jvm.Cond.code ({ cls := "java/lang/StringBuilder", name := "append", desc := "(I)Ljava/lang/StringBuilder;" } : Jvm.MethodName) jdk_67_method_15_code (2 : Nat) (Option.some (Jvm.ClassFile.FieldType.object "java/lang/StringBuilder"))).before args0 about1 = true := code_word (m := ⟨14, 2⟩) (meth := k14m2) (c := k14c2) (by decide +kernel) rfl rfl rfl (by decide +kernel)
set_option maxRecDepth 65536 in
theorem w_c21 : (Jvm.Cond.code ({ cls := "java/lang/AbstractStringBuilder", name := "append", desc := "(I)Ljava/lang/AbstractStringBuilder;" } : Jvm.MethodName) jdk_68_method_32_code (4 : Nat) (Option.some (Jvm.ClassFile.FieldType.object "java/lang/AbstractStringBuilder"))).before args0 about1 = true := code_word (m := ⟨13, 5⟩) (meth := k13m5) (c := k13c5) (by decide +kernel) rfl rfl rfl (by decide +kernel)
set_option maxRecDepth 65536 in
theorem w_c22 : (Jvm.Cond.code ({ cls := "java/lang/Integer", name := "stringSize", desc := "(I)I" } : Jvm.MethodName) jdk_33_method_13_code (4 : Nat) (Option.some Jvm.ClassFile.FieldType.int)).before args0 about1 = true := code_word (m := ⟨17, 1⟩) (meth := k17m1) (c := k17c1) (by decide +kernel) rfl rfl rfl (by decide +kernel)
set_option maxRecDepth 65536 in
theorem w_c23 : (Jvm.Cond.code ({ cls := "java/lang/AbstractStringBuilder", name := "isLatin1", desc := "()Z" } : Jvm.MethodName) jdk_68_method_68_code (1 : Nat) (Option.some Jvm.ClassFile.FieldType.boolean)).before args0 about1 = true := code_word (m := ⟨13, 7⟩) (meth := k13m7) (c := k13c7) (by decide +kernel) rfl rfl rfl (by decide +kernel)
set_option maxRecDepth 65536 in
theorem w_c24 : (Jvm.Cond.code ({ cls := "java/lang/Integer", name := "getChars", desc := "(II[B)I" } : Jvm.MethodName) jdk_33_method_12_code (7 : Nat) (Option.some Jvm.ClassFile.FieldType.int)).before args0 about1 = true := code_word (m := ⟨17, 0⟩) (meth := k17m0) (c := k17c0) (by decide +kernel) rfl rfl rfl (by decide +kernel)
set_option maxRecDepth 65536 in
theorem w_c25 : (Jvm.Cond.code ({ cls := "java/lang/StringBuilder", name := "toString", desc := "()Ljava/lang/String;" } : Jvm.MethodName) jdk_67_method_42_code (1 : Nat) (Option.some (Jvm.ClassFile.FieldType.object "java/lang/String"))).before args0 about1 = true := code_word (m := ⟨14, 3⟩) (meth := k14m3) (c := k14c3) (by decide +kernel) rfl rfl rfl (by decide +kernel)
set_option maxRecDepth 65536 in
theorem w_c26 : (Jvm.Cond.code ({ cls := "java/lang/String", name := "<init>", desc := "(Ljava/lang/StringBuilder;)V" } : Jvm.MethodName) jdk_42_method_53_code (2 : Nat) (Option.none : Option Jvm.ClassFile.FieldType)).before args0 about1 = true := code_word (m := ⟨7, 2⟩) (meth := k7m2) (c := k7c2) (by decide +kernel) rfl rfl rfl (by decide +kernel)
set_option maxRecDepth 65536 in
theorem w_c27 : (Jvm.Cond.code ({ cls := "java/lang/String", name := "<init>", desc := "(Ljava/lang/AbstractStringBuilder;Ljava/lang/Void;)V" } : Jvm.MethodName) jdk_42_method_150_code (5 : Nat) (Option.none : Option Jvm.ClassFile.FieldType)).before args0 about1 = true := code_word (m := ⟨7, 7⟩) (meth := k7m7) (c := k7c7) (by decide +kernel) rfl rfl rfl (by decide +kernel)
set_option maxRecDepth 65536 in
theorem w_c28 : (Jvm.Cond.code ({ cls := "java/lang/AbstractStringBuilder", name := "getValue", desc := "()[B" } : Jvm.MethodName) jdk_68_method_64_code (1 : Nat) (Option.some (Jvm.ClassFile.FieldType.array Jvm.ClassFile.FieldType.byte))).before args0 about1 = true := code_word (m := ⟨13, 6⟩) (meth := k13m6) (c := k13c6) (by decide +kernel) rfl rfl rfl (by decide +kernel)
set_option maxRecDepth 65536 in
theorem w_c29 : (Jvm.Cond.code ({ cls := "java/lang/StringBuilder", name := "length", desc := "()I" } : Jvm.MethodName) jdk_67_method_93_code (1 : Nat) (Option.some Jvm.ClassFile.FieldType.int)).before args0 about1 = true := code_word (m := ⟨14, 4⟩) (meth := k14m4) (c := k14c4) (by decide +kernel) rfl rfl rfl (by decide +kernel)
set_option maxRecDepth 65536 in
theorem w_c30 : (Jvm.Cond.code ({ cls := "java/lang/AbstractStringBuilder", name := "length", desc := "()I" } : Jvm.MethodName) jdk_68_method_6_code (1 : Nat) (Option.some Jvm.ClassFile.FieldType.int)).before args0 about1 = true := code_word (m := ⟨13, 2⟩) (meth := k13m2) (c := k13c2) (by decide +kernel) rfl rfl rfl (by decide +kernel)
set_option maxRecDepth 65536 in
theorem w_c31 : (Jvm.Cond.code ({ cls := "java/util/Arrays", name := "copyOfRange", desc := "([BII)[B" } : Jvm.MethodName) jdk_65_method_132_code (3 : Nat) (Option.some (Jvm.ClassFile.FieldType.array Jvm.ClassFile.FieldType.byte))).before args0 about1 = true := code_word (m := ⟨18, 2⟩) (meth := k18m2) (c := k18c2) (by decide +kernel) rfl rfl rfl (by decide +kernel)
set_option maxRecDepth 65536 in
theorem w_c32 : (Jvm.Cond.code ({ cls := "java/util/Arrays", name := "copyOfRangeByte", desc := "([BII)[B" } : Jvm.MethodName) jdk_65_method_133_code (5 : Nat) (Option.some (Jvm.ClassFile.FieldType.array Jvm.ClassFile.FieldType.byte))).before args0 about1 = true := code_word (m := ⟨18, 3⟩) (meth := k18m3) (c := k18c3) (by decide +kernel) rfl rfl rfl (by decide +kernel)
set_option maxRecDepth 65536 in
theorem w_c33 : (Jvm.Cond.code ({ cls := "java/util/Arrays", name := "checkLength", desc := "(II)V" } : Jvm.MethodName) jdk_65_method_131_code (2 : Nat) (Option.none : Option Jvm.ClassFile.FieldType)).before args0 about1 = true := code_word (m := ⟨18, 1⟩) (meth := k18m1) (c := k18c1) (by decide +kernel) rfl rfl rfl (by decide +kernel)
set_option maxRecDepth 65536 in
theorem w_c34 : (Jvm.Cond.code ({ cls := "java/lang/Math", name := "min", desc := "(II)I" } : Jvm.MethodName) jdk_29_method_69_code (2 : Nat) (Option.some Jvm.ClassFile.FieldType.int)).before args0 about1 = true := code_word (m := ⟨19, 2⟩) (meth := k19m2) (c := k19c2) (by decide +kernel) rfl rfl rfl (by decide +kernel)
set_option maxRecDepth 65536 in
theorem w_c35 : (Jvm.Cond.code ({ cls := "java/lang/Math", name := "abs", desc := "(J)J" } : Jvm.MethodName) jdk_29_method_61_code (2 : Nat) (Option.some Jvm.ClassFile.FieldType.long)).before args0 about1 = true := code_word (m := ⟨19, 1⟩) (meth := k19m1) (c := k19c1) (by decide +kernel) rfl rfl rfl (by decide +kernel)
set_option maxRecDepth 65536 in
theorem w_c36 : (Jvm.Cond.code ({ cls := "com/example/tight_bound/tightbound/HeapObjectToStringPinLaw", name := "digits", desc := "(J)I" } : Jvm.MethodName) method_3_code (2 : Nat) (Option.some Jvm.ClassFile.FieldType.int)).before args0 about1 = true := code_word (m := ⟨1, 2⟩) (meth := k1m2) (c := k1c2) (by decide +kernel) rfl rfl rfl (by decide +kernel)
set_option maxRecDepth 65536 in
theorem w_c37 : (Jvm.Cond.code ({ cls := "com/example/tight_bound/tightbound/HeapObjectToStringPinLaw", name := "at", desc := "(Ljava/lang/String;ICCCIIIJ)Z" } : Jvm.MethodName) method_6_code (10 : Nat) (Option.some Jvm.ClassFile.FieldType.boolean)).before args0 about1 = true := code_word (m := ⟨1, 5⟩) (meth := k1m5) (c := k1c5) (by decide +kernel) rfl rfl rfl (by decide +kernel)
set_option maxRecDepth 65536 in
theorem w_c38 : (Jvm.Cond.code ({ cls := "java/lang/String", name := "charAt", desc := "(I)C" } : Jvm.MethodName) jdk_42_method_56_code (2 : Nat) (Option.some Jvm.ClassFile.FieldType.char)).before args0 about1 = true := code_word (m := ⟨7, 4⟩) (meth := k7m4) (c := k7c4) (by decide +kernel) rfl rfl rfl (by decide +kernel)
set_option maxRecDepth 65536 in
theorem w_c39 : (Jvm.Cond.code ({ cls := "java/lang/String", name := "isLatin1", desc := "()Z" } : Jvm.MethodName) jdk_42_method_154_code (1 : Nat) (Option.some Jvm.ClassFile.FieldType.boolean)).before args0 about1 = true := code_word (m := ⟨7, 9⟩) (meth := k7m9) (c := k7c9) (by decide +kernel) rfl rfl rfl (by decide +kernel)
set_option maxRecDepth 65536 in
theorem w_c40 : (Jvm.Cond.code ({ cls := "java/lang/StringLatin1", name := "charAt", desc := "([BI)C" } : Jvm.MethodName) jdk_43_method_2_code (2 : Nat) (Option.some Jvm.ClassFile.FieldType.char)).before args0 about1 = true := code_word (m := ⟨20, 1⟩) (meth := k20m1) (c := k20c1) (by decide +kernel) rfl rfl rfl (by decide +kernel)
set_option maxRecDepth 65536 in
theorem w_c41 : (Jvm.Cond.code ({ cls := "java/lang/String", name := "checkIndex", desc := "(II)V" } : Jvm.MethodName) jdk_42_method_155_code (2 : Nat) (Option.none : Option Jvm.ClassFile.FieldType)).before args0 about1 = true := code_word (m := ⟨7, 10⟩) (meth := k7m10) (c := k7c10) (by decide +kernel) rfl rfl rfl (by decide +kernel)
set_option maxRecDepth 65536 in
theorem w_c42 : (Jvm.Cond.code ({ cls := "jdk/internal/util/Preconditions", name := "checkIndex", desc := "(IILjava/util/function/BiFunction;)I" } : Jvm.MethodName) jdk_41_method_11_code (3 : Nat) (Option.some Jvm.ClassFile.FieldType.int)).before args0 about1 = true := code_word (m := ⟨21, 1⟩) (meth := k21m1) (c := k21c1) (by decide +kernel) rfl rfl rfl (by decide +kernel)
set_option maxRecDepth 65536 in
theorem w_c43 : (Jvm.Cond.code ({ cls := "com/example/tight_bound/tightbound/HeapObjectToStringPinLaw", name := "expected", desc := "(ICCCIIIJ)C" } : Jvm.MethodName) method_5_code (12 : Nat) (Option.some Jvm.ClassFile.FieldType.char)).before args0 about1 = true := code_word (m := ⟨1, 4⟩) (meth := k1m4) (c := k1c4) (by decide +kernel) rfl rfl rfl (by decide +kernel)
set_option maxRecDepth 65536 in
theorem w_c44 : (Jvm.Cond.code ({ cls := "com/example/tight_bound/tightbound/HeapObjectToStringPinLaw", name := "pow10", desc := "(I)J" } : Jvm.MethodName) method_4_code (2 : Nat) (Option.some Jvm.ClassFile.FieldType.long)).before args0 about1 = true := code_word (m := ⟨1, 3⟩) (meth := k1m3) (c := k1c3) (by decide +kernel) rfl rfl rfl (by decide +kernel)
def codes1 : List Jvm.Cond := [Jvm.Cond.code x code maxLocals ret, Jvm.Cond.code ({ cls := "java/lang/String", name := "<init>", desc := "([C)V" } : Jvm.MethodName) jdk_42_method_3_code (2 : Nat) (Option.none : Option Jvm.ClassFile.FieldType), Jvm.Cond.code ({ cls := "java/lang/String", name := "<init>", desc := "([CIILjava/lang/Void;)V" } : Jvm.MethodName) jdk_42_method_149_code (6 : Nat) (Option.none : Option Jvm.ClassFile.FieldType), Jvm.Cond.code ({ cls := "java/lang/Object", name := "<init>", desc := "()V" } : Jvm.MethodName) object_method_1_code (1 : Nat) (Option.none : Option Jvm.ClassFile.FieldType), Jvm.Cond.code ({ cls := "java/lang/StringUTF16", name := "compress", desc := "([CII)[B" } : Jvm.MethodName) jdk_52_method_16_code (6 : Nat) (Option.some (Jvm.ClassFile.FieldType.array Jvm.ClassFile.FieldType.byte)), Jvm.Cond.code ({ cls := "java/lang/StringUTF16", name := "compress", desc := "([CI[BII)I" } : Jvm.MethodName) jdk_52_method_21_code (7 : Nat) (Option.some Jvm.ClassFile.FieldType.int), Jvm.Cond.code ({ cls := "java/lang/StringUTF16", name := "coderFromArrayLen", desc := "([BI)B" } : Jvm.MethodName) jdk_52_method_15_code (2 : Nat) (Option.some Jvm.ClassFile.FieldType.byte), Jvm.Cond.code ({ cls := "com/example/tight_bound/tightbound/HeapObject", name := "<init>", desc := "(Ljava/lang/String;I)V" } : Jvm.MethodName) prog_10_method_1_code (3 : Nat) (Option.none : Option Jvm.ClassFile.FieldType), Jvm.Cond.code ({ cls := "java/lang/Record", name := "<init>", desc := "()V" } : Jvm.MethodName) jdk_30_method_1_code (1 : Nat) (Option.none : Option Jvm.ClassFile.FieldType), Jvm.Cond.code ({ cls := "com/example/tight_bound/tightbound/HeapObject", name := "toString", desc := "()Ljava/lang/String;" } : Jvm.MethodName) prog_10_method_2_code (1 : Nat) (Option.some (Jvm.ClassFile.FieldType.object "java/lang/String")), Jvm.Cond.code ({ cls := "java/lang/StringBuilder", name := "<init>", desc := "()V" } : Jvm.MethodName) jdk_67_method_1_code (1 : Nat) (Option.none : Option Jvm.ClassFile.FieldType), Jvm.Cond.code ({ cls := "java/lang/AbstractStringBuilder", name := "<init>", desc := "(I)V" } : Jvm.MethodName) jdk_68_method_2_code (2 : Nat) (Option.none : Option Jvm.ClassFile.FieldType), Jvm.Cond.code ({ cls := "java/lang/StringBuilder", name := "append", desc := "(Ljava/lang/String;)Ljava/lang/StringBuilder;" } : Jvm.MethodName) jdk_67_method_7_code (2 : Nat) (Option.some (Jvm.ClassFile.FieldType.object "java/lang/StringBuilder")), Jvm.Cond.code ({ cls := "java/lang/AbstractStringBuilder", name := "append", desc := "(Ljava/lang/String;)Ljava/lang/AbstractStringBuilder;" } : Jvm.MethodName) jdk_68_method_22_code (3 : Nat) (Option.some (Jvm.ClassFile.FieldType.object "java/lang/AbstractStringBuilder")), Jvm.Cond.code ({ cls := "java/lang/String", name := "length", desc := "()I" } : Jvm.MethodName) jdk_42_method_54_code (1 : Nat) (Option.some Jvm.ClassFile.FieldType.int), Jvm.Cond.code ({ cls := "java/lang/String", name := "coder", desc := "()B" } : Jvm.MethodName) jdk_42_method_152_code (1 : Nat) (Option.some Jvm.ClassFile.FieldType.byte), Jvm.Cond.code ({ cls := "java/lang/AbstractStringBuilder", name := "ensureCapacityInternal", desc := "(I)V" } : Jvm.MethodName) jdk_68_method_9_code (3 : Nat) (Option.none : Option Jvm.ClassFile.FieldType), Jvm.Cond.code ({ cls := "java/lang/AbstractStringBuilder", name := "putStringAt", desc := "(ILjava/lang/String;)V" } : Jvm.MethodName) jdk_68_method_73_code (3 : Nat) (Option.none : Option Jvm.ClassFile.FieldType), Jvm.Cond.code ({ cls := "java/lang/AbstractStringBuilder", name := "inflateIfNeededFor", desc := "(Ljava/lang/String;)V" } : Jvm.MethodName) jdk_68_method_71_code (2 : Nat) (Option.none : Option Jvm.ClassFile.FieldType), Jvm.Cond.code ({ cls := "java/lang/String", name := "getBytes", desc := "([BIB)V" } : Jvm.MethodName) jdk_42_method_147_code (4 : Nat) (Option.none : Option Jvm.ClassFile.FieldType), Jvm.Cond.code ({ cls := "java/lang/StringBuilder", name := "append", desc := "(I)Ljava/lang/StringBuilder;" } : Jvm.MethodName) jdk_67_method_15_code (2 : Nat) (Option.some (Jvm.ClassFile.FieldType.object "java/lang/StringBuilder")), Jvm.Cond.code ({ cls := "java/lang/AbstractStringBuilder", name := "append", desc := "(I)Ljava/lang/AbstractStringBuilder;" } : Jvm.MethodName) jdk_68_method_32_code (4 : Nat) (Option.some (Jvm.ClassFile.FieldType.object "java/lang/AbstractStringBuilder")), Jvm.Cond.code ({ cls := "java/lang/Integer", name := "stringSize", desc := "(I)I" } : Jvm.MethodName) jdk_33_method_13_code (4 : Nat) (Option.some Jvm.ClassFile.FieldType.int), Jvm.Cond.code ({ cls := "java/lang/AbstractStringBuilder", name := "isLatin1", desc := "()Z" } : Jvm.MethodName) jdk_68_method_68_code (1 : Nat) (Option.some Jvm.ClassFile.FieldType.boolean), Jvm.Cond.code ({ cls := "java/lang/Integer", name := "getChars", desc := "(II[B)I" } : Jvm.MethodName) jdk_33_method_12_code (7 : Nat) (Option.some Jvm.ClassFile.FieldType.int), Jvm.Cond.code ({ cls := "java/lang/StringBuilder", name := "toString", desc := "()Ljava/lang/String;" } : Jvm.MethodName) jdk_67_method_42_code (1 : Nat) (Option.some (Jvm.ClassFile.FieldType.object "java/lang/String")), Jvm.Cond.code ({ cls := "java/lang/String", name := "<init>", desc := "(Ljava/lang/StringBuilder;)V" } : Jvm.MethodName) jdk_42_method_53_code (2 : Nat) (Option.none : Option Jvm.ClassFile.FieldType), Jvm.Cond.code ({ cls := "java/lang/String", name := "<init>", desc := "(Ljava/lang/AbstractStringBuilder;Ljava/lang/Void;)V" } : Jvm.MethodName) jdk_42_method_150_code (5 : Nat) (Option.none : Option Jvm.ClassFile.FieldType), Jvm.Cond.code ({ cls := "java/lang/AbstractStringBuilder", name := "getValue", desc := "()[B" } : Jvm.MethodName) jdk_68_method_64_code (1 : Nat) (Option.some (Jvm.ClassFile.FieldType.array Jvm.ClassFile.FieldType.byte)), Jvm.Cond.code ({ cls := "java/lang/StringBuilder", name := "length", desc := "()I" } : Jvm.MethodName) jdk_67_method_93_code (1 : Nat) (Option.some Jvm.ClassFile.FieldType.int), Jvm.Cond.code ({ cls := "java/lang/AbstractStringBuilder", name := "length", desc := "()I" } : Jvm.MethodName) jdk_68_method_6_code (1 : Nat) (Option.some Jvm.ClassFile.FieldType.int), Jvm.Cond.code ({ cls := "java/util/Arrays", name := "copyOfRange", desc := "([BII)[B" } : Jvm.MethodName) jdk_65_method_132_code (3 : Nat) (Option.some (Jvm.ClassFile.FieldType.array Jvm.ClassFile.FieldType.byte)), Jvm.Cond.code ({ cls := "java/util/Arrays", name := "copyOfRangeByte", desc := "([BII)[B" } : Jvm.MethodName) jdk_65_method_133_code (5 : Nat) (Option.some (Jvm.ClassFile.FieldType.array Jvm.ClassFile.FieldType.byte)), Jvm.Cond.code ({ cls := "java/util/Arrays", name := "checkLength", desc := "(II)V" } : Jvm.MethodName) jdk_65_method_131_code (2 : Nat) (Option.none : Option Jvm.ClassFile.FieldType), Jvm.Cond.code ({ cls := "java/lang/Math", name := "min", desc := "(II)I" } : Jvm.MethodName) jdk_29_method_69_code (2 : Nat) (Option.some Jvm.ClassFile.FieldType.int), Jvm.Cond.code ({ cls := "java/lang/Math", name := "abs", desc := "(J)J" } : Jvm.MethodName) jdk_29_method_61_code (2 : Nat) (Option.some Jvm.ClassFile.FieldType.long), Jvm.Cond.code ({ cls := "com/example/tight_bound/tightbound/HeapObjectToStringPinLaw", name := "digits", desc := "(J)I" } : Jvm.MethodName) method_3_code (2 : Nat) (Option.some Jvm.ClassFile.FieldType.int), Jvm.Cond.code ({ cls := "com/example/tight_bound/tightbound/HeapObjectToStringPinLaw", name := "at", desc := "(Ljava/lang/String;ICCCIIIJ)Z" } : Jvm.MethodName) method_6_code (10 : Nat) (Option.some Jvm.ClassFile.FieldType.boolean), Jvm.Cond.code ({ cls := "java/lang/String", name := "charAt", desc := "(I)C" } : Jvm.MethodName) jdk_42_method_56_code (2 : Nat) (Option.some Jvm.ClassFile.FieldType.char), Jvm.Cond.code ({ cls := "java/lang/String", name := "isLatin1", desc := "()Z" } : Jvm.MethodName) jdk_42_method_154_code (1 : Nat) (Option.some Jvm.ClassFile.FieldType.boolean), Jvm.Cond.code ({ cls := "java/lang/StringLatin1", name := "charAt", desc := "([BI)C" } : Jvm.MethodName) jdk_43_method_2_code (2 : Nat) (Option.some Jvm.ClassFile.FieldType.char), Jvm.Cond.code ({ cls := "java/lang/String", name := "checkIndex", desc := "(II)V" } : Jvm.MethodName) jdk_42_method_155_code (2 : Nat) (Option.none : Option Jvm.ClassFile.FieldType), Jvm.Cond.code ({ cls := "jdk/internal/util/Preconditions", name := "checkIndex", desc := "(IILjava/util/function/BiFunction;)I" } : Jvm.MethodName) jdk_41_method_11_code (3 : Nat) (Option.some Jvm.ClassFile.FieldType.int), Jvm.Cond.code ({ cls := "com/example/tight_bound/tightbound/HeapObjectToStringPinLaw", name := "expected", desc := "(ICCCIIIJ)C" } : Jvm.MethodName) method_5_code (12 : Nat) (Option.some Jvm.ClassFile.FieldType.char), Jvm.Cond.code ({ cls := "com/example/tight_bound/tightbound/HeapObjectToStringPinLaw", name := "pow10", desc := "(I)J" } : Jvm.MethodName) method_4_code (2 : Nat) (Option.some Jvm.ClassFile.FieldType.long)]
set_option maxRecDepth 65536 in
theorem codes_eq : words1.filter isCode = codes1 := rfl
theorem w_codes : ∀ c ∈ words1.filter isCode, c.before args0 about1 = true := by
  rw [codes_eq]
  intro c hc
  simp only [codes1, List.mem_cons, List.not_mem_nil, or_false] at hc
  rcases hc with rfl | rfl | rfl | rfl | rfl | rfl | rfl | rfl | rfl | rfl | rfl | rfl | rfl | rfl | rfl | rfl | rfl | rfl | rfl | rfl | rfl | rfl | rfl | rfl | rfl | rfl | rfl | rfl | rfl | rfl | rfl | rfl | rfl | rfl | rfl | rfl | rfl | rfl | rfl | rfl | rfl | rfl | rfl | rfl | rfl
  · exact w_c0
  · exact w_c1
  · exact w_c2
  · exact w_c3
  · exact w_c4
  · exact w_c5
  · exact w_c6
  · exact w_c7
  · exact w_c8
  · exact w_c9
  · exact w_c10
  · exact w_c11
  · exact w_c12
  · exact w_c13
  · exact w_c14
  · exact w_c15
  · exact w_c16
  · exact w_c17
  · exact w_c18
  · exact w_c19
  · exact w_c20
  · exact w_c21
  · exact w_c22
  · exact w_c23
  · exact w_c24
  · exact w_c25
  · exact w_c26
  · exact w_c27
  · exact w_c28
  · exact w_c29
  · exact w_c30
  · exact w_c31
  · exact w_c32
  · exact w_c33
  · exact w_c34
  · exact w_c35
  · exact w_c36
  · exact w_c37
  · exact w_c38
  · exact w_c39
  · exact w_c40
  · exact w_c41
  · exact w_c42
  · exact w_c43
  · exact w_c44
set_option maxRecDepth 65536 in
theorem w_t1 : (words1.take 24).all (fun c => isCode c || c.before args0 about1) = true := by decide +kernel
set_option maxRecDepth 65536 in
theorem w_t2 : ((words1.drop 24).take 24).all (fun c => isCode c || c.before args0 about1) = true := by decide +kernel
set_option maxRecDepth 65536 in
theorem w_t3 : (((words1.drop 24).drop 24).take 24).all (fun c => isCode c || c.before args0 about1) = true := by decide +kernel
set_option maxRecDepth 65536 in
theorem w_t4 : ((((words1.drop 24).drop 24).drop 24).take 24).all (fun c => isCode c || c.before args0 about1) = true := by decide +kernel
set_option maxRecDepth 65536 in
theorem w_t5 : (((((words1.drop 24).drop 24).drop 24).drop 24).take 24).all (fun c => isCode c || c.before args0 about1) = true := by decide +kernel
set_option maxRecDepth 65536 in
theorem w_t6 : ((((((words1.drop 24).drop 24).drop 24).drop 24).drop 24).take 24).all (fun c => isCode c || c.before args0 about1) = true := by decide +kernel
set_option maxRecDepth 65536 in
theorem w_t7 : (((((((words1.drop 24).drop 24).drop 24).drop 24).drop 24).drop 24).take 24).all (fun c => isCode c || c.before args0 about1) = true := by decide +kernel
set_option maxRecDepth 65536 in
theorem w_t8 : ((((((((words1.drop 24).drop 24).drop 24).drop 24).drop 24).drop 24).drop 24).take 24).all (fun c => isCode c || c.before args0 about1) = true := by decide +kernel
set_option maxRecDepth 65536 in
theorem w_t9 : (((((((((words1.drop 24).drop 24).drop 24).drop 24).drop 24).drop 24).drop 24).drop 24).take 24).all (fun c => isCode c || c.before args0 about1) = true := by decide +kernel
set_option maxRecDepth 65536 in
theorem w_t10 : (((((((((words1.drop 24).drop 24).drop 24).drop 24).drop 24).drop 24).drop 24).drop 24).drop 24).all (fun c => isCode c || c.before args0 about1) = true := by decide +kernel
theorem w_tables : (allAtoms (Jvm.Cond.code x code maxLocals ret :: tables_1)).before args0 about1 = true := by
  rw [allAtoms_all]
  show words1.all (fun c => c.before args0 about1) = true
  refine all_split ?_ w_codes
  rw [← List.take_append_drop 24 words1, List.all_append, w_t1, ← List.take_append_drop 24 (words1.drop 24), List.all_append, w_t2, ← List.take_append_drop 24 ((words1.drop 24).drop 24), List.all_append, w_t3, ← List.take_append_drop 24 (((words1.drop 24).drop 24).drop 24), List.all_append, w_t4, ← List.take_append_drop 24 ((((words1.drop 24).drop 24).drop 24).drop 24), List.all_append, w_t5, ← List.take_append_drop 24 (((((words1.drop 24).drop 24).drop 24).drop 24).drop 24), List.all_append, w_t6, ← List.take_append_drop 24 ((((((words1.drop 24).drop 24).drop 24).drop 24).drop 24).drop 24), List.all_append, w_t7, ← List.take_append_drop 24 (((((((words1.drop 24).drop 24).drop 24).drop 24).drop 24).drop 24).drop 24), List.all_append, w_t8, ← List.take_append_drop 24 ((((((((words1.drop 24).drop 24).drop 24).drop 24).drop 24).drop 24).drop 24).drop 24), List.all_append, w_t9, w_t10]
  rfl
set_option maxRecDepth 65536 in
theorem w_rest : rest_1_c.before args0 about1 = true := by decide +kernel
set_option maxRecDepth 65536 in
theorem w_case : (Jvm.Cond.and given_1 narrow_1).before args0 about1 = true := by decide +kernel
set_option maxRecDepth 65536 in
theorem w_consts : constsHeld consts_1 about1 := Jvm.Lit.constsHeldB_iff.mp (by decide +kernel)
theorem w_applies : (headSpec (Jvm.Cond.code x code maxLocals ret :: tables_1) room_1).applies x e0.platform about1 = true :=
  (Spec.applies_iff w_frames).mpr ⟨w_running, w_runnable, w_alone, w_named, w_hears, w_ripe, w_room, w_tables⟩
theorem atStart : AtStart classFile x code maxLocals ret World_1 tables_1 room_1 Calls_1 rest_1 Pre_1 launch0 p0 e0 about1 theMethod args0 below0 :=
  ⟨lists_1, trivial, launch0.admits_env _ _ _, launch0.least_env, fairChoices_fair.cas, fairChoices_fair.clock, w_frames, w_args, w_heap, w_applies, ⟨w_consts, trivial⟩, w_rest, w_case⟩
end start1
theorem witness_1 : WitnessClaimed_1 := ⟨start1.p0, start1.e0, start1.about1, start1.theMethod, start1.args0, start1.below0, start1.atStart⟩
end Jvm.Pilot.@@N@@
