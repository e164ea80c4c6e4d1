import JvmDerived
import JvmDerived.Pilot.@@N@@Statement
import JvmDerived.Pilot.@@N@@Code
set_option linter.unusedVariables false
set_option linter.unusedSimpArgs false
namespace Jvm.RoadKit
open Sem ClassFile Op Lib Jvm.Stand Jvm.Free Jvm.LawKit
section New
variable {p : Program} {l : Launch} {e : Env} {R : Room} {s : State} {m : MethodId} {args : Array Value} {below : List Frame} {meth : Method} {c : Code} {T : State} {locs : List Loc} {cells slots : Nat}
theorem retI (X : Stand p l e R s m args below meth c T locs cells slots) (hx : p.tables.exec = Jvm.exec) {pc : Nat} {Ls : Array Slot} {z : Int32} {rest : List Value} (hret : meth.sig.returnType = some .int) (hd : decode c.code pc = .ok (.ireturn, 1)) {fs : List Frame}
    (hl : ∀ (f : JFrame) (acts : List Action), f.method = m → f.locked = none → f.entered = [] → (doReturn e (T.setTop f) acts (some (.int z))).1 = T.setFrames fs) : Steps p.tables e below (T.setTop (mkF m pc Ls (.int z :: rest))) (T.setFrames fs) := by
  have hm' : T.vm.method? m = some meth := X.method'
  have hn : narrow .int (.int z) = .int z := rfl
  show Steps p.tables e below (T.setTop { method := m, pc := pc, locals := Ls, stack := _ :: rest, locked := none }) _
  jvm_step X.here [X.here.top, hx, hd, hm', hret, hn]
  first | (intro acts; rw [hl _ acts rfl rfl rfl]) | rw [hl _ _ rfl rfl rfl]
  exact Steps.refl _
end New
end Jvm.RoadKit
namespace Jvm.Pilot.@@N@@
open Jvm Jvm.ClassFile Sem Op Lib Jvm.Free Jvm.Stand Jvm.LawKit Jvm.RoadKit Bundle Jvm.Pilot.@@N@@.Jvm.D
theorem own_n0 {Z : State} {n0 : Nat} {h : Heap} (O : Old Z n0 h) : n0 ≤ h.size := O.1 ▸ O.2.1
theorem own_born {Z : State} {n0 : Nat} {h : Heap} {b : Addr} (O : Old Z n0 h) (q : h.size ≤ b) : n0 ≤ b := Nat.le_trans (own_n0 O) q
theorem own_eqle {b : Addr} {n : Nat} (q : b = n) : n ≤ b := Nat.le_of_eq q.symm
theorem own_ltn {a b : Addr} {n : Nat} (h : a < n) (q : n ≤ b) : a ≠ b := Nat.ne_of_lt (Nat.lt_of_lt_of_le h q)
theorem own_oldlt {Z : State} {n0 : Nat} {h : Heap} {a : Addr} (O : Old Z n0 h) (q : a < Z.heap.size) : a < h.size := Nat.lt_of_lt_of_le q O.2.1
theorem d1_0 : decode prog_108_method_1_code 0 = .ok (.aload_n 0, 1) := by decide +kernel
theorem d1_1 : decode prog_108_method_1_code 1 = .ok (.invokespecial 3, 3) := by decide +kernel
theorem d1_4 : decode prog_108_method_1_code 4 = .ok (.aload_n 0, 1) := by decide +kernel
theorem d1_5 : decode prog_108_method_1_code 5 = .ok (.iconst 1, 1) := by decide +kernel
theorem d1_6 : decode prog_108_method_1_code 6 = .ok (.anewarray 9, 3) := by decide +kernel
theorem d1_9 : decode prog_108_method_1_code 9 = .ok (.dup, 1) := by decide +kernel
theorem d1_10 : decode prog_108_method_1_code 10 = .ok (.iconst 0, 1) := by decide +kernel
theorem d1_11 : decode prog_108_method_1_code 11 = .ok (.sipush 3072, 3) := by decide +kernel
theorem d1_14 : decode prog_108_method_1_code 14 = .ok (.newarray .int, 2) := by decide +kernel
theorem d1_16 : decode prog_108_method_1_code 16 = .ok (.aastore, 1) := by decide +kernel
theorem d1_17 : decode prog_108_method_1_code 17 = .ok (.putfield 11, 3) := by decide +kernel
theorem d1_20 : decode prog_108_method_1_code 20 = .ok (.return_, 1) := by decide +kernel
theorem ef_1_R (m : MethodId) (x0 : Addr) : entryFrame m #[(.ref x0)] 1 = mkF m 0 #[.val (.ref x0)] [] := by first | (simp [entryFrame, mkF, argsToLocals, Value.category]; done) | rfl
theorem pn_0 : plainName "com/example/rokin/rokin/store/TripleColumns" = true := by first | (simp [plainName, overriddenIn]; done) | decide +kernel
def Qrm1 (Z : State) (a1 : Addr) (h0 : Heap) (n0 : Nat) (v : Option Value) (h : Heap) (L : List Loc) : Prop := ∃ b3 : Addr, ∃ b4 : Addr, ∃ k3 : ClassId, ∃ k4 : ClassId, v = none ∧ Fr n0 L ∧ Keep h0 h [a1] ∧ h0.size ≤ b3 ∧ h0.size ≤ b4 ∧ b3 ≠ b4 ∧ Exa Z h a1 "com/example/rokin/rokin/store/TripleColumns" ∧ Fld Z h a1 "com/example/rokin/rokin/store/TripleColumns" "pages" "[[I" (.ref b3) ∧ Fld Z h a1 "com/example/rokin/rokin/store/TripleColumns" "size" "I" (.int (0 : Int32)) ∧ Exa Z h b3 "[[I" ∧ OvrA Z k3 .int "[I" ∧ Arv Z h b3 k3 (.array .int) (1 : Int32) [(.ref b4)] .null ∧ Exa Z h b4 "[I" ∧ Arv Z h b4 k4 .int (3072 : Int32) [] (.int (0 : Int32))
set_option maxRecDepth 65536 in
set_option maxHeartbeats 40000000 in
theorem rm1 (l : Launch) (Z : State) (a0 : Array Value) (hw : ∀ d ∈ tables_1, d.before a0 Z = true) (ws : List Jvm.Cond) (a1 : Addr) (h0 : Heap) (n0 : Nat) (O0 : Old Z n0 h0) (E_10 : Exa Z h0 a1 "com/example/rokin/rokin/store/TripleColumns") (F_11 : Fld Z h0 a1 "com/example/rokin/rokin/store/TripleColumns" "pages" "[[I" .null) (g_a1 : n0 ≤ a1) (F_15 : Fld Z h0 a1 "com/example/rokin/rokin/store/TripleColumns" "size" "I" (.int (0 : Int32))) :
    MetFree l (⟨"com/example/rokin/rokin/store/TripleColumns", "<init>", "()V"⟩ : MethodName) (head1 (Jvm.Cond.code (⟨"com/example/rokin/rokin/store/TripleColumns", "<init>", "()V"⟩ : MethodName) prog_108_method_1_code 1 none :: ws) ({ frames := 1, cells := 2, slots := 3073, locals := 12 } : Room)) (fun a U => a = #[(.ref a1)] ∧ Z.Warmed39 U.vm ∧ U.heap = h0) (fun _ _ _ _ _ => True) (fun _ U o U' => ∃ v L, o = .returned v ∧ Qrm1 Z a1 h0 n0 v U'.heap L ∧ FrameEnd U o U' L ({ frames := 1, cells := 2, slots := 3073, locals := 12 } : Room).cells ({ frames := 1, cells := 2, slots := 3073, locals := 12 } : Room).slots) := by
  refine MetFree.of_bodySF (plainFor_of_name pn_0) hisR ?_
  intro p e s m args below meth c s₁ Bd hml0 hP hK
  obtain ⟨rfl, hZ, hh⟩ := hP
  have hx := Bd.exec
  have hby := Bd.bytes
  have hml : c.maxLocals = 1 := hml0
  have hown : s.vm.findClass "com/example/rokin/rokin/store/TripleColumns" = some m.cls := findClass_of_methodNamed Bd.named
  have hnm := (name_of_methodNamed Bd.named Bd.method).1
  have X0 : Stand p l e ({ frames := 1, cells := 2, slots := 3073, locals := 12 } : Room) s m #[(.ref a1)] below meth c s₁ [] 0 0 := Stand.of_body Bd
  have e0 : s₁.heap = h0 := by rw [← hh, Bd.state]; rfl
  have N0 := Fr.nil n0
  have pre0 : ∀ t, Steps p.tables e below (s₁.setTop (mkF m 0 #[.val (.ref a1)] [])) t → Steps p.tables e below (s₁.setTop (entryFrame m #[(.ref a1)] 1)) t := fun t k => castTop (ef_1_R m a1) k
  obtain ⟨T2, X2, e2, st2⟩ := initO X0 hx hZ hown (hw _ (List.mem_of_getElem? (i := 6) rfl)) (hw _ (List.mem_of_getElem? (i := 7) rfl)) (hw _ (List.mem_of_getElem? (i := 8) rfl)) e0 (g := (mkF m 1 #[.val (.ref a1)] [(.ref a1)])) rfl (by rw [hml]; rfl) rfl (hb hby d1_1) (by decide) (W := 0) (by show 2 * 0 + _ ≤ _; exact Nat.le_of_eq rfl) (by decide)
  obtain ⟨T3, h3, k3, X3, e3, E3, A3, B3, O23, st3⟩ := newRA X2 hx hZ hown (ty := .int) (by decide) (hw _ (List.mem_of_getElem? (i := 9) rfl)) (hw _ (List.mem_of_getElem? (i := 10) rfl)) e2 (g := (mkF m 6 #[.val (.ref a1)] [(.int (1 : Int32)), (.ref a1)])) rfl (hb hby d1_6) rfl (by decide) (cap := 1) (by decide) (by decide) (by decide) (by decide) (ad := "[[I") (by decide)
  obtain ⟨b3, g3⟩ : ∃ z, z = h0.size := ⟨_, rfl⟩
  rw [← g3] at A3 B3 st3
  have g_b3 : n0 ≤ b3 := own_born O0 (own_eqle g3)
  have sz_b3 : h0.size ≤ b3 := Nat.le_trans (Keep.refl h0 [a1]).1 (own_eqle g3)
  have K3 : Keep h0 h3 [a1] := (Keep.refl h0 [a1]).ext E3
  have O3 : Old Z n0 h3 := O0.ext E3
  have V3 : Arv Z h3 b3 k3 (.array .int) (1 : Int32) [] .null := Arv.new A3 (by decide)
  obtain ⟨T4, h4, k4, X4, e4, E4, A4, B4, st4⟩ := newPE X3 hx hZ (hw _ (List.mem_of_getElem? (i := 11) rfl)) e3 (g := (mkF m 14 #[.val (.ref a1)] [(.int (3072 : Int32)), (.int (0 : Int32)), (.ref b3), (.ref b3), (.ref a1)])) rfl (hb hby d1_14) rfl (by decide) (cap := 3072) (by decide) (by decide) (by decide) (by decide) (ad := "[I") (by decide)
  obtain ⟨b4, g4⟩ : ∃ z, z = h3.size := ⟨_, rfl⟩
  rw [← g4] at A4 B4 st4
  have ne5 : b3 ≠ b4 := (own_ltn B3.lt (own_eqle g4))
  have g_b4 : n0 ≤ b4 := own_born O3 (own_eqle g4)
  have sz_b4 : h0.size ≤ b4 := Nat.le_trans K3.1 (own_eqle g4)
  have K4 : Keep h0 h4 [a1] := K3.ext E4
  have O4 : Old Z n0 h4 := O3.ext E4
  have V4 : Arv Z h4 b4 k4 .int (3072 : Int32) [] (.int (0 : Int32)) := Arv.new A4 (by decide)
  have f6 : Arv Z h4 b3 k3 (.array .int) (1 : Int32) [] .null := (V3.ext E4)
  have V7 : Arv Z h4 b3 k3 (.array .int) (1 : Int32) [.null] .null := f6.pad (pad_rep [] .null 1)
  obtain ⟨cl8, Ar8, q8, S8, M8, Hs8, G8⟩ := id V7
  have hin8 : ¬ ((0 : Int32) < 0 ∨ cl8.slots.size ≤ ((0 : Int32)).toNatClampNeg) := inb_of S8 ⟨by decide, by decide⟩
  obtain ⟨T9, h9, X9, e9, W9, st9⟩ := stR X4 hx hZ e4 Ar8 (j := (0 : Int32)) hin8 rfl (Sto.ofVA Ar8 q8 O23 (Ins.self B4)) (g := (mkF m 16 #[.val (.ref a1)] [(.ref b4), (.int (0 : Int32)), (.ref b3), (.ref b3), (.ref a1)])) rfl rfl (hb hby d1_16)
  have K9 : Keep h0 h9 [a1] := K4.wr W9 (Or.inr sz_b3)
  have O9 : Old Z n0 h9 := O4.wr W9 g_b3
  have N9 := Fr.snoc X9 N0 g_b3
  have Vw9 : Arv Z h9 b3 k3 (.array .int) (1 : Int32) [(.ref b4)] .null := Arv.set Ar8 q8 S8 M8 Hs8 G8 rfl W9 0 rfl (Nat.le_of_ble_eq_true rfl)
  have f12 : Fld Z h9 a1 "com/example/rokin/rokin/store/TripleColumns" "pages" "[[I" .null := (((F_11.ext E3).ext E4).other W9 (Or.inl (own_ltn E_10.lt sz_b3)))
  have f13 : Exa Z h9 a1 "com/example/rokin/rokin/store/TripleColumns" := (((E_10.ext E3).ext E4).wr W9)
  obtain ⟨T14, h14, X14, e14, W14, st14⟩ := putF X9 hx hZ hown (host := "") (Or.inl (hw _ (List.mem_of_getElem? (i := 13) rfl))) Via.refl e9 f12 f13 (Or.inl (hw _ (List.mem_of_getElem? (i := 14) rfl))) (hw _ (List.mem_of_getElem? (i := 1) rfl)) (ty := (.array (.array .int))) (by decide) rfl rfl (g := (mkF m 17 #[.val (.ref a1)] [(.ref b3), (.ref a1)])) rfl rfl (hb hby d1_17)
  have K14 : Keep h0 h14 [a1] := K9.wr W14 (Or.inl (List.mem_of_getElem? (i := 0) rfl))
  have O14 : Old Z n0 h14 := O9.wr W14 g_a1
  have N14 := Fr.snoc X14 N9 g_a1
  have Fw14 : Fld Z h14 a1 "com/example/rokin/rokin/store/TripleColumns" "pages" "[[I" (.ref b3) := f12.same W14
  have f16 : Exa Z h14 a1 "com/example/rokin/rokin/store/TripleColumns" := (f13.wr W14)
  have f17 : Fld Z h14 a1 "com/example/rokin/rokin/store/TripleColumns" "size" "I" (.int (0 : Int32)) := ((((F_15.ext E3).ext E4).other W9 (Or.inl (own_ltn E_10.lt sz_b3))).other W14 (Or.inr (slot_ne (Or.inl (hw _ (List.mem_of_getElem? (i := 21) rfl))) (Or.inl (hw _ (List.mem_of_getElem? (i := 14) rfl))) (by decide) (t := .int) (t' := (.array (.array .int))) (by decide) (by decide))))
  have f18 : Exa Z h14 b3 "[[I" := (((B3.ext E4).wr W9).wr W14)
  have f19 : Arv Z h14 b3 k3 (.array .int) (1 : Int32) [(.ref b4)] .null := (Vw9.other W14 (Ne.symm (own_ltn E_10.lt sz_b3)))
  have f20 : Exa Z h14 b4 "[I" := ((B4.wr W9).wr W14)
  have f21 : Arv Z h14 b4 k4 .int (3072 : Int32) [] (.int (0 : Int32)) := ((V4.other W9 (Ne.symm ne5)).other W14 (Ne.symm (own_ltn E_10.lt sz_b4)))
  obtain ⟨fs, hr, hrun, hended, hW, hsame⟩ := X14.leave (v := none) (fun _ => rfl)
  refine ⟨_, _, pre0 _ ?_, hrun, hended, _, _, rfl, ?_, ⟨_, rfl⟩, hW, hsame.mono (by decide) (by decide)⟩
  · show Steps p.tables e below (s₁.setTop (mkF m 0 #[.val (.ref a1)] [])) _
    refine XS.aloadN X0.here hx rfl (hb hby d1_0) rfl rfl ?_
    show Steps p.tables e below (s₁.setTop (mkF m 1 #[.val (.ref a1)] [(.ref a1)])) _
    refine st2 _ ?_
    show Steps p.tables e below (T2.setTop (mkF m 4 #[.val (.ref a1)] [])) _
    refine XS.aloadN X2.here hx rfl (hb hby d1_4) rfl rfl ?_
    show Steps p.tables e below (T2.setTop (mkF m 5 #[.val (.ref a1)] [(.ref a1)])) _
    refine XS.iconst X2.here hx rfl (hb hby d1_5) ?_
    show Steps p.tables e below (T2.setTop (mkF m 6 #[.val (.ref a1)] [(.int (1 : Int32)), (.ref a1)])) _
    refine st3 _ ?_
    show Steps p.tables e below (T3.setTop (mkF m 9 #[.val (.ref a1)] [(.ref b3), (.ref a1)])) _
    refine XS.dup X3.here hx rfl (hb hby d1_9) rfl rfl ?_
    show Steps p.tables e below (T3.setTop (mkF m 10 #[.val (.ref a1)] [(.ref b3), (.ref b3), (.ref a1)])) _
    refine XS.iconst X3.here hx rfl (hb hby d1_10) ?_
    show Steps p.tables e below (T3.setTop (mkF m 11 #[.val (.ref a1)] [(.int (0 : Int32)), (.ref b3), (.ref b3), (.ref a1)])) _
    refine XS.sipush X3.here hx rfl (hb hby d1_11) ?_
    show Steps p.tables e below (T3.setTop (mkF m 14 #[.val (.ref a1)] [(.int (3072 : Int32)), (.int (0 : Int32)), (.ref b3), (.ref b3), (.ref a1)])) _
    refine st4 _ ?_
    show Steps p.tables e below (T4.setTop (mkF m 16 #[.val (.ref a1)] [(.ref b4), (.int (0 : Int32)), (.ref b3), (.ref b3), (.ref a1)])) _
    refine st9 _ ?_
    show Steps p.tables e below (T9.setTop (mkF m 17 #[.val (.ref a1)] [(.ref b3), (.ref a1)])) _
    refine st14 _ ?_
    show Steps p.tables e below (T14.setTop (mkF m 20 #[.val (.ref a1)] [])) _
    exact X14.returnOut hx Bd.returns (hb hby d1_20) hr
  · show Qrm1 Z a1 h0 n0 _ T14.heap _
    rw [e14]
    exact ⟨b3, b4, k3, k4, rfl, N14, K14, sz_b3, sz_b4, ne5, f16, Fw14, f17, f18, O23, f19, f20, f21⟩
theorem pd_1 : parseMethodDescriptor "()V" = some ⟨[], none⟩ := by decide +kernel
theorem d3_0 : decode prog_108_method_6_code 0 = .ok (.aload_n 0, 1) := by decide +kernel
theorem d3_1 : decode prog_108_method_6_code 1 = .ok (.getfield 15, 3) := by decide +kernel
theorem d3_4 : decode prog_108_method_6_code 4 = .ok (.ldc 21, 2) := by decide +kernel
theorem d3_6 : decode prog_108_method_6_code 6 = .ok (.if_icmp .ne 20, 3) := by decide +kernel
theorem d3_26 : decode prog_108_method_6_code 26 = .ok (.aload_n 0, 1) := by decide +kernel
theorem d3_27 : decode prog_108_method_6_code 27 = .ok (.getfield 15, 3) := by decide +kernel
theorem d3_30 : decode prog_108_method_6_code 30 = .ok (.istore 4, 2) := by decide +kernel
theorem d3_32 : decode prog_108_method_6_code 32 = .ok (.iload 4, 2) := by decide +kernel
theorem d3_34 : decode prog_108_method_6_code 34 = .ok (.bipush 15, 2) := by decide +kernel
theorem d3_36 : decode prog_108_method_6_code 36 = .ok (.iushr, 1) := by decide +kernel
theorem d3_37 : decode prog_108_method_6_code 37 = .ok (.istore 5, 2) := by decide +kernel
theorem d3_39 : decode prog_108_method_6_code 39 = .ok (.iconst 3, 1) := by decide +kernel
theorem d3_40 : decode prog_108_method_6_code 40 = .ok (.iload 4, 2) := by decide +kernel
theorem d3_42 : decode prog_108_method_6_code 42 = .ok (.sipush 32767, 3) := by decide +kernel
theorem d3_45 : decode prog_108_method_6_code 45 = .ok (.iand, 1) := by decide +kernel
theorem d3_46 : decode prog_108_method_6_code 46 = .ok (.imul, 1) := by decide +kernel
theorem d3_47 : decode prog_108_method_6_code 47 = .ok (.istore 6, 2) := by decide +kernel
theorem d3_49 : decode prog_108_method_6_code 49 = .ok (.iload 5, 2) := by decide +kernel
theorem d3_51 : decode prog_108_method_6_code 51 = .ok (.aload_n 0, 1) := by decide +kernel
theorem d3_52 : decode prog_108_method_6_code 52 = .ok (.getfield 11, 3) := by decide +kernel
theorem d3_55 : decode prog_108_method_6_code 55 = .ok (.arraylength, 1) := by decide +kernel
theorem d3_56 : decode prog_108_method_6_code 56 = .ok (.if_icmp .ne 21, 3) := by decide +kernel
theorem d3_77 : decode prog_108_method_6_code 77 = .ok (.aload_n 0, 1) := by decide +kernel
theorem d3_78 : decode prog_108_method_6_code 78 = .ok (.getfield 11, 3) := by decide +kernel
theorem d3_81 : decode prog_108_method_6_code 81 = .ok (.iload 5, 2) := by decide +kernel
theorem d3_83 : decode prog_108_method_6_code 83 = .ok (.aaload, 1) := by decide +kernel
theorem d3_84 : decode prog_108_method_6_code 84 = .ok (.ifnonnull 17, 3) := by decide +kernel
theorem d3_101 : decode prog_108_method_6_code 101 = .ok (.iload 6, 2) := by decide +kernel
theorem d3_103 : decode prog_108_method_6_code 103 = .ok (.aload_n 0, 1) := by decide +kernel
theorem d3_104 : decode prog_108_method_6_code 104 = .ok (.getfield 11, 3) := by decide +kernel
theorem d3_107 : decode prog_108_method_6_code 107 = .ok (.iload 5, 2) := by decide +kernel
theorem d3_109 : decode prog_108_method_6_code 109 = .ok (.aaload, 1) := by decide +kernel
theorem d3_110 : decode prog_108_method_6_code 110 = .ok (.arraylength, 1) := by decide +kernel
theorem d3_111 : decode prog_108_method_6_code 111 = .ok (.if_icmp .ne 24, 3) := by decide +kernel
theorem d3_135 : decode prog_108_method_6_code 135 = .ok (.aload_n 0, 1) := by decide +kernel
theorem d3_136 : decode prog_108_method_6_code 136 = .ok (.getfield 11, 3) := by decide +kernel
theorem d3_139 : decode prog_108_method_6_code 139 = .ok (.iload 5, 2) := by decide +kernel
theorem d3_141 : decode prog_108_method_6_code 141 = .ok (.aaload, 1) := by decide +kernel
theorem d3_142 : decode prog_108_method_6_code 142 = .ok (.iload 6, 2) := by decide +kernel
theorem d3_144 : decode prog_108_method_6_code 144 = .ok (.iload_n 1, 1) := by decide +kernel
theorem d3_145 : decode prog_108_method_6_code 145 = .ok (.iastore, 1) := by decide +kernel
theorem d3_146 : decode prog_108_method_6_code 146 = .ok (.aload_n 0, 1) := by decide +kernel
theorem d3_147 : decode prog_108_method_6_code 147 = .ok (.getfield 11, 3) := by decide +kernel
theorem d3_150 : decode prog_108_method_6_code 150 = .ok (.iload 5, 2) := by decide +kernel
theorem d3_152 : decode prog_108_method_6_code 152 = .ok (.aaload, 1) := by decide +kernel
theorem d3_153 : decode prog_108_method_6_code 153 = .ok (.iload 6, 2) := by decide +kernel
theorem d3_155 : decode prog_108_method_6_code 155 = .ok (.iconst 1, 1) := by decide +kernel
theorem d3_156 : decode prog_108_method_6_code 156 = .ok (.iadd, 1) := by decide +kernel
theorem d3_157 : decode prog_108_method_6_code 157 = .ok (.iload_n 2, 1) := by decide +kernel
theorem d3_158 : decode prog_108_method_6_code 158 = .ok (.iastore, 1) := by decide +kernel
theorem d3_159 : decode prog_108_method_6_code 159 = .ok (.aload_n 0, 1) := by decide +kernel
theorem d3_160 : decode prog_108_method_6_code 160 = .ok (.getfield 11, 3) := by decide +kernel
theorem d3_163 : decode prog_108_method_6_code 163 = .ok (.iload 5, 2) := by decide +kernel
theorem d3_165 : decode prog_108_method_6_code 165 = .ok (.aaload, 1) := by decide +kernel
theorem d3_166 : decode prog_108_method_6_code 166 = .ok (.iload 6, 2) := by decide +kernel
theorem d3_168 : decode prog_108_method_6_code 168 = .ok (.iconst 2, 1) := by decide +kernel
theorem d3_169 : decode prog_108_method_6_code 169 = .ok (.iadd, 1) := by decide +kernel
theorem d3_170 : decode prog_108_method_6_code 170 = .ok (.iload_n 3, 1) := by decide +kernel
theorem d3_171 : decode prog_108_method_6_code 171 = .ok (.iastore, 1) := by decide +kernel
theorem d3_172 : decode prog_108_method_6_code 172 = .ok (.aload_n 0, 1) := by decide +kernel
theorem d3_173 : decode prog_108_method_6_code 173 = .ok (.dup, 1) := by decide +kernel
theorem d3_174 : decode prog_108_method_6_code 174 = .ok (.getfield 15, 3) := by decide +kernel
theorem d3_177 : decode prog_108_method_6_code 177 = .ok (.iconst 1, 1) := by decide +kernel
theorem d3_178 : decode prog_108_method_6_code 178 = .ok (.iadd, 1) := by decide +kernel
theorem d3_179 : decode prog_108_method_6_code 179 = .ok (.putfield 15, 3) := by decide +kernel
theorem d3_182 : decode prog_108_method_6_code 182 = .ok (.iload 4, 2) := by decide +kernel
theorem d3_184 : decode prog_108_method_6_code 184 = .ok (.ireturn, 1) := by decide +kernel
theorem ef_3_RIII (m : MethodId) (x0 : Addr) (x1 : Int32) (x2 : Int32) (x3 : Int32) : entryFrame m #[(.ref x0), (.int x1), (.int x2), (.int x3)] 7 = mkF m 0 #[.val (.ref x0), .val (.int x1), .val (.int x2), .val (.int x3), .unset, .unset, .unset] [] := by first | (simp [entryFrame, mkF, argsToLocals, Value.category]; done) | rfl
def Qrm3 (Z : State) (a1 : Addr) (p2 : Int32) (p3 : Int32) (p4 : Int32) (a8 : Addr) (k11 : ClassId) (a12 : Addr) (k19 : ClassId) (h0 : Heap) (n0 : Nat) (v : Option Value) (h : Heap) (L : List Loc) : Prop := v = some (.int (0 : Int32)) ∧ Fr n0 L ∧ Keep h0 h [a12, a1] ∧ Arv Z h a12 k19 .int (3072 : Int32) [(.int p2), (.int p3), (.int p4)] (.int (0 : Int32)) ∧ Exa Z h a12 "[I" ∧ Fld Z h a1 "com/example/rokin/rokin/store/TripleColumns" "size" "I" (.int (1 : Int32)) ∧ Fld Z h a1 "com/example/rokin/rokin/store/TripleColumns" "pages" "[[I" (.ref a8) ∧ Exa Z h a1 "com/example/rokin/rokin/store/TripleColumns"
set_option maxRecDepth 65536 in
set_option maxHeartbeats 40000000 in
theorem rm3 (l : Launch) (Z : State) (a0 : Array Value) (hw : ∀ d ∈ tables_1, d.before a0 Z = true) (ws : List Jvm.Cond) (a1 : Addr) (p2 : Int32) (p3 : Int32) (p4 : Int32) (a8 : Addr) (k11 : ClassId) (a12 : Addr) (k19 : ClassId) (h0 : Heap) (n0 : Nat) (O0 : Old Z n0 h0) (F_5 : Fld Z h0 a1 "com/example/rokin/rokin/store/TripleColumns" "size" "I" (.int (0 : Int32))) (F_9 : Fld Z h0 a1 "com/example/rokin/rokin/store/TripleColumns" "pages" "[[I" (.ref a8)) (V_13 : Arv Z h0 a8 k11 (.array .int) (1 : Int32) [(.ref a12)] .null) (V_20 : Arv Z h0 a12 k19 .int (3072 : Int32) [] (.int (0 : Int32))) (g_a12 : n0 ≤ a12) (E_27 : Exa Z h0 a12 "[I") (ne_a1_a12 : a1 ≠ a12) (ne_a8_a12 : a8 ≠ a12) (E_44 : Exa Z h0 a1 "com/example/rokin/rokin/store/TripleColumns") (g_a1 : n0 ≤ a1) :
    MetFree l (⟨"com/example/rokin/rokin/store/TripleColumns", "add", "(III)I"⟩ : MethodName) (head1 (Jvm.Cond.code (⟨"com/example/rokin/rokin/store/TripleColumns", "add", "(III)I"⟩ : MethodName) prog_108_method_6_code 7 (some .int) :: ws) ({ frames := 0, cells := 0, slots := 0, locals := 0 } : Room)) (fun a U => a = #[(.ref a1), (.int p2), (.int p3), (.int p4)] ∧ Z.Warmed39 U.vm ∧ U.heap = h0) (fun _ _ _ _ _ => True) (fun _ U o U' => ∃ v L, o = .returned v ∧ Qrm3 Z a1 p2 p3 p4 a8 k11 a12 k19 h0 n0 v U'.heap L ∧ FrameEnd U o U' L ({ frames := 0, cells := 0, slots := 0, locals := 0 } : Room).cells ({ frames := 0, cells := 0, slots := 0, locals := 0 } : Room).slots) := by
  refine MetFree.of_bodySF (plainFor_of_name pn_0) hisR ?_
  intro p e s m args below meth c s₁ Bd hml0 hP hK
  obtain ⟨rfl, hZ, hh⟩ := hP
  have hx := Bd.exec
  have hby := Bd.bytes
  have hml : c.maxLocals = 7 := hml0
  have hown : s.vm.findClass "com/example/rokin/rokin/store/TripleColumns" = some m.cls := findClass_of_methodNamed Bd.named
  have hnm := (name_of_methodNamed Bd.named Bd.method).1
  have X0 : Stand p l e ({ frames := 0, cells := 0, slots := 0, locals := 0 } : Room) s m #[(.ref a1), (.int p2), (.int p3), (.int p4)] below meth c s₁ [] 0 0 := Stand.of_body Bd
  have e0 : s₁.heap = h0 := by rw [← hh, Bd.state]; rfl
  have N0 := Fr.nil n0
  have pre0 : ∀ t, Steps p.tables e below (s₁.setTop (mkF m 0 #[.val (.ref a1), .val (.int p2), .val (.int p3), .val (.int p4), .unset, .unset, .unset] [])) t → Steps p.tables e below (s₁.setTop (entryFrame m #[(.ref a1), (.int p2), (.int p3), (.int p4)] 7)) t := fun t k => castTop (ef_3_RIII m a1 p2 p3 p4) k
  obtain ⟨T6, X6, e6, st6⟩ := getF X0 hx hZ hown (host := "") (Or.inl (hw _ (List.mem_of_getElem? (i := 20) rfl))) Via.refl e0 F_5 (g := (mkF m 1 #[.val (.ref a1), .val (.int p2), .val (.int p3), .val (.int p4), .unset, .unset, .unset] [(.ref a1)])) rfl rfl (hb hby d3_1)
  obtain ⟨T7, X7, e7, st7⟩ := getF X6 hx hZ hown (host := "") (Or.inl (hw _ (List.mem_of_getElem? (i := 20) rfl))) Via.refl e6 F_5 (g := (mkF m 27 #[.val (.ref a1), .val (.int p2), .val (.int p3), .val (.int p4), .unset, .unset, .unset] [(.ref a1)])) rfl rfl (hb hby d3_27)
  obtain ⟨T10, X10, e10, st10⟩ := getF X7 hx hZ hown (host := "") (Or.inl (hw _ (List.mem_of_getElem? (i := 13) rfl))) Via.refl e7 F_9 (g := (mkF m 52 #[.val (.ref a1), .val (.int p2), .val (.int p3), .val (.int p4), .val (.int (0 : Int32)), .val (.int (0 : Int32)), .val (.int (0 : Int32))] [(.ref a1), (.int (0 : Int32))])) rfl rfl (hb hby d3_52)
  obtain ⟨cl14, Ar14, q14, S14, M14, Hs14, G14⟩ := id V_13
  obtain ⟨T15, X15, e15, st15⟩ := getF X10 hx hZ hown (host := "") (Or.inl (hw _ (List.mem_of_getElem? (i := 13) rfl))) Via.refl e10 F_9 (g := (mkF m 78 #[.val (.ref a1), .val (.int p2), .val (.int p3), .val (.int p4), .val (.int (0 : Int32)), .val (.int (0 : Int32)), .val (.int (0 : Int32))] [(.ref a1)])) rfl rfl (hb hby d3_78)
  obtain ⟨cl16, Ar16, q16, S16, M16, Hs16, G16⟩ := id V_13
  have hin16 : ¬ ((0 : Int32) < 0 ∨ cl16.slots.size ≤ ((0 : Int32)).toNatClampNeg) := inb_of S16 ⟨by decide, by decide⟩
  have hat16 : cl16.slots[((0 : Int32)).toNatClampNeg]? = some (.ref a12) := Has.at Hs16 hin16 rfl
  obtain ⟨T17, X17, e17, st17⟩ := getF X15 hx hZ hown (host := "") (Or.inl (hw _ (List.mem_of_getElem? (i := 13) rfl))) Via.refl e15 F_9 (g := (mkF m 104 #[.val (.ref a1), .val (.int p2), .val (.int p3), .val (.int p4), .val (.int (0 : Int32)), .val (.int (0 : Int32)), .val (.int (0 : Int32))] [(.ref a1), (.int (0 : Int32))])) rfl rfl (hb hby d3_104)
  obtain ⟨cl18, Ar18, q18, S18, M18, Hs18, G18⟩ := id V_13
  have hin18 : ¬ ((0 : Int32) < 0 ∨ cl18.slots.size ≤ ((0 : Int32)).toNatClampNeg) := inb_of S18 ⟨by decide, by decide⟩
  have hat18 : cl18.slots[((0 : Int32)).toNatClampNeg]? = some (.ref a12) := Has.at Hs18 hin18 rfl
  obtain ⟨cl21, Ar21, q21, S21, M21, Hs21, G21⟩ := id V_20
  obtain ⟨T22, X22, e22, st22⟩ := getF X17 hx hZ hown (host := "") (Or.inl (hw _ (List.mem_of_getElem? (i := 13) rfl))) Via.refl e17 F_9 (g := (mkF m 136 #[.val (.ref a1), .val (.int p2), .val (.int p3), .val (.int p4), .val (.int (0 : Int32)), .val (.int (0 : Int32)), .val (.int (0 : Int32))] [(.ref a1)])) rfl rfl (hb hby d3_136)
  obtain ⟨cl23, Ar23, q23, S23, M23, Hs23, G23⟩ := id V_13
  have hin23 : ¬ ((0 : Int32) < 0 ∨ cl23.slots.size ≤ ((0 : Int32)).toNatClampNeg) := inb_of S23 ⟨by decide, by decide⟩
  have hat23 : cl23.slots[((0 : Int32)).toNatClampNeg]? = some (.ref a12) := Has.at Hs23 hin23 rfl
  have V24 : Arv Z h0 a12 k19 .int (3072 : Int32) [(.int (0 : Int32))] (.int (0 : Int32)) := V_20.pad (pad_rep [] (.int (0 : Int32)) 1)
  obtain ⟨cl25, Ar25, q25, S25, M25, Hs25, G25⟩ := id V24
  have hin25 : ¬ ((0 : Int32) < 0 ∨ cl25.slots.size ≤ ((0 : Int32)).toNatClampNeg) := inb_of S25 ⟨by decide, by decide⟩
  obtain ⟨T26, h26, X26, e26, W26, st26⟩ := stI X22 hx hZ e22 Ar25 (j := (0 : Int32)) hin25 (g := (mkF m 145 #[.val (.ref a1), .val (.int p2), .val (.int p3), .val (.int p4), .val (.int (0 : Int32)), .val (.int (0 : Int32)), .val (.int (0 : Int32))] [(.int p2), (.int (0 : Int32)), (.ref a12)])) rfl rfl (hb hby d3_145)
  have K26 : Keep h0 h26 [a12, a1] := (Keep.refl h0 [a12, a1]).wr W26 (Or.inl (List.mem_of_getElem? (i := 0) rfl))
  have O26 : Old Z n0 h26 := O0.wr W26 g_a12
  have N26 := Fr.snoc X26 N0 g_a12
  have Vw26 : Arv Z h26 a12 k19 .int (3072 : Int32) [(.int p2)] (.int (0 : Int32)) := Arv.set Ar25 q25 S25 M25 Hs25 G25 rfl W26 0 rfl (Nat.le_of_ble_eq_true rfl)
  have f28 : Fld Z h26 a1 "com/example/rokin/rokin/store/TripleColumns" "pages" "[[I" (.ref a8) := (F_9.other W26 (Or.inl ne_a1_a12))
  obtain ⟨T29, X29, e29, st29⟩ := getF X26 hx hZ hown (host := "") (Or.inl (hw _ (List.mem_of_getElem? (i := 13) rfl))) Via.refl e26 f28 (g := (mkF m 147 #[.val (.ref a1), .val (.int p2), .val (.int p3), .val (.int p4), .val (.int (0 : Int32)), .val (.int (0 : Int32)), .val (.int (0 : Int32))] [(.ref a1)])) rfl rfl (hb hby d3_147)
  have f30 : Arv Z h26 a8 k11 (.array .int) (1 : Int32) [(.ref a12)] .null := (V_13.other W26 ne_a8_a12)
  obtain ⟨cl31, Ar31, q31, S31, M31, Hs31, G31⟩ := id f30
  have hin31 : ¬ ((0 : Int32) < 0 ∨ cl31.slots.size ≤ ((0 : Int32)).toNatClampNeg) := inb_of S31 ⟨by decide, by decide⟩
  have hat31 : cl31.slots[((0 : Int32)).toNatClampNeg]? = some (.ref a12) := Has.at Hs31 hin31 rfl
  have V32 : Arv Z h26 a12 k19 .int (3072 : Int32) [(.int p2), (.int (0 : Int32))] (.int (0 : Int32)) := Vw26.pad (pad_rep [(.int p2)] (.int (0 : Int32)) 1)
  obtain ⟨cl33, Ar33, q33, S33, M33, Hs33, G33⟩ := id V32
  have hin33 : ¬ ((1 : Int32) < 0 ∨ cl33.slots.size ≤ ((1 : Int32)).toNatClampNeg) := inb_of S33 ⟨by decide, by decide⟩
  obtain ⟨T34, h34, X34, e34, W34, st34⟩ := stI X29 hx hZ e29 Ar33 (j := (1 : Int32)) hin33 (g := (mkF m 158 #[.val (.ref a1), .val (.int p2), .val (.int p3), .val (.int p4), .val (.int (0 : Int32)), .val (.int (0 : Int32)), .val (.int (0 : Int32))] [(.int p3), (.int (1 : Int32)), (.ref a12)])) rfl rfl (hb hby d3_158)
  have K34 : Keep h0 h34 [a12, a1] := K26.wr W34 (Or.inl (List.mem_of_getElem? (i := 0) rfl))
  have O34 : Old Z n0 h34 := O26.wr W34 g_a12
  have N34 := Fr.snoc X34 N26 g_a12
  have Vw34 : Arv Z h34 a12 k19 .int (3072 : Int32) [(.int p2), (.int p3)] (.int (0 : Int32)) := Arv.set Ar33 q33 S33 M33 Hs33 G33 rfl W34 1 rfl (Nat.le_of_ble_eq_true rfl)
  have f35 : Fld Z h34 a1 "com/example/rokin/rokin/store/TripleColumns" "pages" "[[I" (.ref a8) := (f28.other W34 (Or.inl ne_a1_a12))
  obtain ⟨T36, X36, e36, st36⟩ := getF X34 hx hZ hown (host := "") (Or.inl (hw _ (List.mem_of_getElem? (i := 13) rfl))) Via.refl e34 f35 (g := (mkF m 160 #[.val (.ref a1), .val (.int p2), .val (.int p3), .val (.int p4), .val (.int (0 : Int32)), .val (.int (0 : Int32)), .val (.int (0 : Int32))] [(.ref a1)])) rfl rfl (hb hby d3_160)
  have f37 : Arv Z h34 a8 k11 (.array .int) (1 : Int32) [(.ref a12)] .null := (f30.other W34 ne_a8_a12)
  obtain ⟨cl38, Ar38, q38, S38, M38, Hs38, G38⟩ := id f37
  have hin38 : ¬ ((0 : Int32) < 0 ∨ cl38.slots.size ≤ ((0 : Int32)).toNatClampNeg) := inb_of S38 ⟨by decide, by decide⟩
  have hat38 : cl38.slots[((0 : Int32)).toNatClampNeg]? = some (.ref a12) := Has.at Hs38 hin38 rfl
  have V39 : Arv Z h34 a12 k19 .int (3072 : Int32) [(.int p2), (.int p3), (.int (0 : Int32))] (.int (0 : Int32)) := Vw34.pad (pad_rep [(.int p2), (.int p3)] (.int (0 : Int32)) 1)
  obtain ⟨cl40, Ar40, q40, S40, M40, Hs40, G40⟩ := id V39
  have hin40 : ¬ ((2 : Int32) < 0 ∨ cl40.slots.size ≤ ((2 : Int32)).toNatClampNeg) := inb_of S40 ⟨by decide, by decide⟩
  obtain ⟨T41, h41, X41, e41, W41, st41⟩ := stI X36 hx hZ e36 Ar40 (j := (2 : Int32)) hin40 (g := (mkF m 171 #[.val (.ref a1), .val (.int p2), .val (.int p3), .val (.int p4), .val (.int (0 : Int32)), .val (.int (0 : Int32)), .val (.int (0 : Int32))] [(.int p4), (.int (2 : Int32)), (.ref a12)])) rfl rfl (hb hby d3_171)
  have K41 : Keep h0 h41 [a12, a1] := K34.wr W41 (Or.inl (List.mem_of_getElem? (i := 0) rfl))
  have O41 : Old Z n0 h41 := O34.wr W41 g_a12
  have N41 := Fr.snoc X41 N34 g_a12
  have Vw41 : Arv Z h41 a12 k19 .int (3072 : Int32) [(.int p2), (.int p3), (.int p4)] (.int (0 : Int32)) := Arv.set Ar40 q40 S40 M40 Hs40 G40 rfl W41 2 rfl (Nat.le_of_ble_eq_true rfl)
  have f42 : Fld Z h41 a1 "com/example/rokin/rokin/store/TripleColumns" "size" "I" (.int (0 : Int32)) := (((F_5.other W26 (Or.inl ne_a1_a12)).other W34 (Or.inl ne_a1_a12)).other W41 (Or.inl ne_a1_a12))
  obtain ⟨T43, X43, e43, st43⟩ := getF X41 hx hZ hown (host := "") (Or.inl (hw _ (List.mem_of_getElem? (i := 20) rfl))) Via.refl e41 f42 (g := (mkF m 174 #[.val (.ref a1), .val (.int p2), .val (.int p3), .val (.int p4), .val (.int (0 : Int32)), .val (.int (0 : Int32)), .val (.int (0 : Int32))] [(.ref a1), (.ref a1)])) rfl rfl (hb hby d3_174)
  have f45 : Exa Z h41 a1 "com/example/rokin/rokin/store/TripleColumns" := (((E_44.wr W26).wr W34).wr W41)
  obtain ⟨T46, h46, X46, e46, W46, st46⟩ := putF X43 hx hZ hown (host := "") (Or.inl (hw _ (List.mem_of_getElem? (i := 20) rfl))) Via.refl e43 f42 f45 (Or.inl (hw _ (List.mem_of_getElem? (i := 21) rfl))) (hw _ (List.mem_of_getElem? (i := 1) rfl)) (ty := .int) (by decide) rfl rfl (g := (mkF m 179 #[.val (.ref a1), .val (.int p2), .val (.int p3), .val (.int p4), .val (.int (0 : Int32)), .val (.int (0 : Int32)), .val (.int (0 : Int32))] [(.int (1 : Int32)), (.ref a1)])) rfl rfl (hb hby d3_179)
  have K46 : Keep h0 h46 [a12, a1] := K41.wr W46 (Or.inl (List.mem_of_getElem? (i := 1) rfl))
  have O46 : Old Z n0 h46 := O41.wr W46 g_a1
  have N46 := Fr.snoc X46 N41 g_a1
  have Fw46 : Fld Z h46 a1 "com/example/rokin/rokin/store/TripleColumns" "size" "I" (.int (1 : Int32)) := f42.same W46
  have f47 : Arv Z h46 a12 k19 .int (3072 : Int32) [(.int p2), (.int p3), (.int p4)] (.int (0 : Int32)) := (Vw41.other W46 (Ne.symm ne_a1_a12))
  have f48 : Exa Z h46 a12 "[I" := ((((E_27.wr W26).wr W34).wr W41).wr W46)
  have f49 : Fld Z h46 a1 "com/example/rokin/rokin/store/TripleColumns" "pages" "[[I" (.ref a8) := ((f35.other W41 (Or.inl ne_a1_a12)).other W46 (Or.inr (slot_ne (Or.inl (hw _ (List.mem_of_getElem? (i := 14) rfl))) (Or.inl (hw _ (List.mem_of_getElem? (i := 21) rfl))) (by decide) (t := (.array (.array .int))) (t' := .int) (by decide) (by decide))))
  have f50 : Exa Z h46 a1 "com/example/rokin/rokin/store/TripleColumns" := (f45.wr W46)
  obtain ⟨fs, hr, hrun, hended, hW, hsame⟩ := X46.leave (v := some (.int (0 : Int32))) (fun h => by rw [Bd.returns] at h; cases h)
  refine ⟨_, _, pre0 _ ?_, hrun, hended, _, _, rfl, ?_, ⟨_, rfl⟩, hW, hsame.mono (by decide) (by decide)⟩
  · show Steps p.tables e below (s₁.setTop (mkF m 0 #[.val (.ref a1), .val (.int p2), .val (.int p3), .val (.int p4), .unset, .unset, .unset] [])) _
    refine XS.aloadN X0.here hx rfl (hb hby d3_0) rfl rfl ?_
    show Steps p.tables e below (s₁.setTop (mkF m 1 #[.val (.ref a1), .val (.int p2), .val (.int p3), .val (.int p4), .unset, .unset, .unset] [(.ref a1)])) _
    refine st6 _ ?_
    show Steps p.tables e below (T6.setTop (mkF m 4 #[.val (.ref a1), .val (.int p2), .val (.int p3), .val (.int p4), .unset, .unset, .unset] [(.int (0 : Int32))])) _
    refine X6.ldcInt hx hown (mvT hZ (hw _ (List.mem_of_getElem? (i := 22) rfl))) (g := (mkF m 4 #[.val (.ref a1), .val (.int p2), .val (.int p3), .val (.int p4), .unset, .unset, .unset] [(.int (0 : Int32))])) rfl (hb hby d3_4) _ ?_
    show Steps p.tables e below (T6.setTop (mkF m 6 #[.val (.ref a1), .val (.int p2), .val (.int p3), .val (.int p4), .unset, .unset, .unset] [(.int (2147483647 : Int32)), (.int (0 : Int32))])) _
    refine XS.icmpYes X6.here hx rfl (pc0 := 6) (pc' := 26) rfl (hb hby d3_6) rfl (feq ((by decide) : ¬ ((0 : Int32) = (2147483647 : Int32)))).2 (by decide) (by decide) ?_
    show Steps p.tables e below (T6.setTop (mkF m 26 #[.val (.ref a1), .val (.int p2), .val (.int p3), .val (.int p4), .unset, .unset, .unset] [])) _
    refine XS.aloadN X6.here hx rfl (hb hby d3_26) rfl rfl ?_
    show Steps p.tables e below (T6.setTop (mkF m 27 #[.val (.ref a1), .val (.int p2), .val (.int p3), .val (.int p4), .unset, .unset, .unset] [(.ref a1)])) _
    refine st7 _ ?_
    show Steps p.tables e below (T7.setTop (mkF m 30 #[.val (.ref a1), .val (.int p2), .val (.int p3), .val (.int p4), .unset, .unset, .unset] [(.int (0 : Int32))])) _
    refine XS.istore X7.here hx rfl (hb hby d3_30) rfl (l' := #[.val (.ref a1), .val (.int p2), .val (.int p3), .val (.int p4), .val (.int (0 : Int32)), .unset, .unset]) rfl ?_
    show Steps p.tables e below (T7.setTop (mkF m 32 #[.val (.ref a1), .val (.int p2), .val (.int p3), .val (.int p4), .val (.int (0 : Int32)), .unset, .unset] [])) _
    refine XS.iload X7.here hx rfl (hb hby d3_32) rfl ?_
    show Steps p.tables e below (T7.setTop (mkF m 34 #[.val (.ref a1), .val (.int p2), .val (.int p3), .val (.int p4), .val (.int (0 : Int32)), .unset, .unset] [(.int (0 : Int32))])) _
    refine XS.bipush X7.here hx rfl (hb hby d3_34) ?_
    show Steps p.tables e below (T7.setTop (mkF m 36 #[.val (.ref a1), .val (.int p2), .val (.int p3), .val (.int p4), .val (.int (0 : Int32)), .unset, .unset] [(.int (15 : Int32)), (.int (0 : Int32))])) _
    refine XS.iushr X7.here hx rfl (hb hby d3_36) rfl ?_
    show Steps p.tables e below (T7.setTop (mkF m 37 #[.val (.ref a1), .val (.int p2), .val (.int p3), .val (.int p4), .val (.int (0 : Int32)), .unset, .unset] [(.int (((0 : Int32).toUInt32 >>> ((15 : Int32) &&& 31).toUInt32).toInt32))])) _
    rw [show (((0 : Int32).toUInt32 >>> ((15 : Int32) &&& 31).toUInt32).toInt32) = (0 : Int32) from by decide]
    show Steps p.tables e below (T7.setTop (mkF m 37 #[.val (.ref a1), .val (.int p2), .val (.int p3), .val (.int p4), .val (.int (0 : Int32)), .unset, .unset] [(.int (0 : Int32))])) _
    refine XS.istore X7.here hx rfl (hb hby d3_37) rfl (l' := #[.val (.ref a1), .val (.int p2), .val (.int p3), .val (.int p4), .val (.int (0 : Int32)), .val (.int (0 : Int32)), .unset]) rfl ?_
    show Steps p.tables e below (T7.setTop (mkF m 39 #[.val (.ref a1), .val (.int p2), .val (.int p3), .val (.int p4), .val (.int (0 : Int32)), .val (.int (0 : Int32)), .unset] [])) _
    refine XS.iconst X7.here hx rfl (hb hby d3_39) ?_
    show Steps p.tables e below (T7.setTop (mkF m 40 #[.val (.ref a1), .val (.int p2), .val (.int p3), .val (.int p4), .val (.int (0 : Int32)), .val (.int (0 : Int32)), .unset] [(.int (3 : Int32))])) _
    refine XS.iload X7.here hx rfl (hb hby d3_40) rfl ?_
    show Steps p.tables e below (T7.setTop (mkF m 42 #[.val (.ref a1), .val (.int p2), .val (.int p3), .val (.int p4), .val (.int (0 : Int32)), .val (.int (0 : Int32)), .unset] [(.int (0 : Int32)), (.int (3 : Int32))])) _
    refine XS.sipush X7.here hx rfl (hb hby d3_42) ?_
    show Steps p.tables e below (T7.setTop (mkF m 45 #[.val (.ref a1), .val (.int p2), .val (.int p3), .val (.int p4), .val (.int (0 : Int32)), .val (.int (0 : Int32)), .unset] [(.int (32767 : Int32)), (.int (0 : Int32)), (.int (3 : Int32))])) _
    refine XS.iand X7.here hx rfl (hb hby d3_45) rfl ?_
    show Steps p.tables e below (T7.setTop (mkF m 46 #[.val (.ref a1), .val (.int p2), .val (.int p3), .val (.int p4), .val (.int (0 : Int32)), .val (.int (0 : Int32)), .unset] [(.int ((0 : Int32) &&& (32767 : Int32))), (.int (3 : Int32))])) _
    rw [show ((0 : Int32) &&& (32767 : Int32)) = (0 : Int32) from by decide]
    show Steps p.tables e below (T7.setTop (mkF m 46 #[.val (.ref a1), .val (.int p2), .val (.int p3), .val (.int p4), .val (.int (0 : Int32)), .val (.int (0 : Int32)), .unset] [(.int (0 : Int32)), (.int (3 : Int32))])) _
    refine XS.imul X7.here hx rfl (hb hby d3_46) rfl ?_
    show Steps p.tables e below (T7.setTop (mkF m 47 #[.val (.ref a1), .val (.int p2), .val (.int p3), .val (.int p4), .val (.int (0 : Int32)), .val (.int (0 : Int32)), .unset] [(.int ((3 : Int32) * (0 : Int32)))])) _
    rw [show ((3 : Int32) * (0 : Int32)) = (0 : Int32) from by decide]
    show Steps p.tables e below (T7.setTop (mkF m 47 #[.val (.ref a1), .val (.int p2), .val (.int p3), .val (.int p4), .val (.int (0 : Int32)), .val (.int (0 : Int32)), .unset] [(.int (0 : Int32))])) _
    refine XS.istore X7.here hx rfl (hb hby d3_47) rfl (l' := #[.val (.ref a1), .val (.int p2), .val (.int p3), .val (.int p4), .val (.int (0 : Int32)), .val (.int (0 : Int32)), .val (.int (0 : Int32))]) rfl ?_
    show Steps p.tables e below (T7.setTop (mkF m 49 #[.val (.ref a1), .val (.int p2), .val (.int p3), .val (.int p4), .val (.int (0 : Int32)), .val (.int (0 : Int32)), .val (.int (0 : Int32))] [])) _
    refine XS.iload X7.here hx rfl (hb hby d3_49) rfl ?_
    show Steps p.tables e below (T7.setTop (mkF m 51 #[.val (.ref a1), .val (.int p2), .val (.int p3), .val (.int p4), .val (.int (0 : Int32)), .val (.int (0 : Int32)), .val (.int (0 : Int32))] [(.int (0 : Int32))])) _
    refine XS.aloadN X7.here hx rfl (hb hby d3_51) rfl rfl ?_
    show Steps p.tables e below (T7.setTop (mkF m 52 #[.val (.ref a1), .val (.int p2), .val (.int p3), .val (.int p4), .val (.int (0 : Int32)), .val (.int (0 : Int32)), .val (.int (0 : Int32))] [(.ref a1), (.int (0 : Int32))])) _
    refine st10 _ ?_
    show Steps p.tables e below (T10.setTop (mkF m 55 #[.val (.ref a1), .val (.int p2), .val (.int p3), .val (.int p4), .val (.int (0 : Int32)), .val (.int (0 : Int32)), .val (.int (0 : Int32))] [(.ref a8), (.int (0 : Int32))])) _
    refine X10.arraylength hx (by rw [e10]; exact Ar14.1) (State.isArrayOf_alike hZ.alike Ar14.2.1) (g := (mkF m 55 #[.val (.ref a1), .val (.int p2), .val (.int p3), .val (.int p4), .val (.int (0 : Int32)), .val (.int (0 : Int32)), .val (.int (0 : Int32))] [(.ref a8), (.int (0 : Int32))])) rfl rfl (hb hby d3_55) _ ?_
    rw [len_of S14 M14]
    show Steps p.tables e below (T10.setTop (mkF m 56 #[.val (.ref a1), .val (.int p2), .val (.int p3), .val (.int p4), .val (.int (0 : Int32)), .val (.int (0 : Int32)), .val (.int (0 : Int32))] [(.int (1 : Int32)), (.int (0 : Int32))])) _
    refine XS.icmpYes X10.here hx rfl (pc0 := 56) (pc' := 77) rfl (hb hby d3_56) rfl (feq ((by decide) : ¬ ((0 : Int32) = (1 : Int32)))).2 (by decide) (by decide) ?_
    show Steps p.tables e below (T10.setTop (mkF m 77 #[.val (.ref a1), .val (.int p2), .val (.int p3), .val (.int p4), .val (.int (0 : Int32)), .val (.int (0 : Int32)), .val (.int (0 : Int32))] [])) _
    refine XS.aloadN X10.here hx rfl (hb hby d3_77) rfl rfl ?_
    show Steps p.tables e below (T10.setTop (mkF m 78 #[.val (.ref a1), .val (.int p2), .val (.int p3), .val (.int p4), .val (.int (0 : Int32)), .val (.int (0 : Int32)), .val (.int (0 : Int32))] [(.ref a1)])) _
    refine st15 _ ?_
    show Steps p.tables e below (T15.setTop (mkF m 81 #[.val (.ref a1), .val (.int p2), .val (.int p3), .val (.int p4), .val (.int (0 : Int32)), .val (.int (0 : Int32)), .val (.int (0 : Int32))] [(.ref a8)])) _
    refine XS.iload X15.here hx rfl (hb hby d3_81) rfl ?_
    show Steps p.tables e below (T15.setTop (mkF m 83 #[.val (.ref a1), .val (.int p2), .val (.int p3), .val (.int p4), .val (.int (0 : Int32)), .val (.int (0 : Int32)), .val (.int (0 : Int32))] [(.int (0 : Int32)), (.ref a8)])) _
    refine X15.aaload hx (j := (0 : Int32)) (v := (.ref a12)) (by rw [e15]; exact Ar16.1) (State.isArrayOf_alike hZ.alike Ar16.2.1) rfl Ar16.2.2 hin16 hat16 (g := (mkF m 83 #[.val (.ref a1), .val (.int p2), .val (.int p3), .val (.int p4), .val (.int (0 : Int32)), .val (.int (0 : Int32)), .val (.int (0 : Int32))] [(.int (0 : Int32)), (.ref a8)])) rfl rfl (hb hby d3_83) _ ?_
    show Steps p.tables e below (T15.setTop (mkF m 84 #[.val (.ref a1), .val (.int p2), .val (.int p3), .val (.int p4), .val (.int (0 : Int32)), .val (.int (0 : Int32)), .val (.int (0 : Int32))] [(.ref a12)])) _
    refine XS.ifnonnullYes X15.here hx rfl (pc0 := 84) (pc' := 101) rfl (hb hby d3_84) rfl (by decide) (by decide) ?_
    show Steps p.tables e below (T15.setTop (mkF m 101 #[.val (.ref a1), .val (.int p2), .val (.int p3), .val (.int p4), .val (.int (0 : Int32)), .val (.int (0 : Int32)), .val (.int (0 : Int32))] [])) _
    refine XS.iload X15.here hx rfl (hb hby d3_101) rfl ?_
    show Steps p.tables e below (T15.setTop (mkF m 103 #[.val (.ref a1), .val (.int p2), .val (.int p3), .val (.int p4), .val (.int (0 : Int32)), .val (.int (0 : Int32)), .val (.int (0 : Int32))] [(.int (0 : Int32))])) _
    refine XS.aloadN X15.here hx rfl (hb hby d3_103) rfl rfl ?_
    show Steps p.tables e below (T15.setTop (mkF m 104 #[.val (.ref a1), .val (.int p2), .val (.int p3), .val (.int p4), .val (.int (0 : Int32)), .val (.int (0 : Int32)), .val (.int (0 : Int32))] [(.ref a1), (.int (0 : Int32))])) _
    refine st17 _ ?_
    show Steps p.tables e below (T17.setTop (mkF m 107 #[.val (.ref a1), .val (.int p2), .val (.int p3), .val (.int p4), .val (.int (0 : Int32)), .val (.int (0 : Int32)), .val (.int (0 : Int32))] [(.ref a8), (.int (0 : Int32))])) _
    refine XS.iload X17.here hx rfl (hb hby d3_107) rfl ?_
    show Steps p.tables e below (T17.setTop (mkF m 109 #[.val (.ref a1), .val (.int p2), .val (.int p3), .val (.int p4), .val (.int (0 : Int32)), .val (.int (0 : Int32)), .val (.int (0 : Int32))] [(.int (0 : Int32)), (.ref a8), (.int (0 : Int32))])) _
    refine X17.aaload hx (j := (0 : Int32)) (v := (.ref a12)) (by rw [e17]; exact Ar18.1) (State.isArrayOf_alike hZ.alike Ar18.2.1) rfl Ar18.2.2 hin18 hat18 (g := (mkF m 109 #[.val (.ref a1), .val (.int p2), .val (.int p3), .val (.int p4), .val (.int (0 : Int32)), .val (.int (0 : Int32)), .val (.int (0 : Int32))] [(.int (0 : Int32)), (.ref a8), (.int (0 : Int32))])) rfl rfl (hb hby d3_109) _ ?_
    show Steps p.tables e below (T17.setTop (mkF m 110 #[.val (.ref a1), .val (.int p2), .val (.int p3), .val (.int p4), .val (.int (0 : Int32)), .val (.int (0 : Int32)), .val (.int (0 : Int32))] [(.ref a12), (.int (0 : Int32))])) _
    refine X17.arraylength hx (by rw [e17]; exact Ar21.1) (State.isArrayOf_alike hZ.alike Ar21.2.1) (g := (mkF m 110 #[.val (.ref a1), .val (.int p2), .val (.int p3), .val (.int p4), .val (.int (0 : Int32)), .val (.int (0 : Int32)), .val (.int (0 : Int32))] [(.ref a12), (.int (0 : Int32))])) rfl rfl (hb hby d3_110) _ ?_
    rw [len_of S21 M21]
    show Steps p.tables e below (T17.setTop (mkF m 111 #[.val (.ref a1), .val (.int p2), .val (.int p3), .val (.int p4), .val (.int (0 : Int32)), .val (.int (0 : Int32)), .val (.int (0 : Int32))] [(.int (3072 : Int32)), (.int (0 : Int32))])) _
    refine XS.icmpYes X17.here hx rfl (pc0 := 111) (pc' := 135) rfl (hb hby d3_111) rfl (feq ((by decide) : ¬ ((0 : Int32) = (3072 : Int32)))).2 (by decide) (by decide) ?_
    show Steps p.tables e below (T17.setTop (mkF m 135 #[.val (.ref a1), .val (.int p2), .val (.int p3), .val (.int p4), .val (.int (0 : Int32)), .val (.int (0 : Int32)), .val (.int (0 : Int32))] [])) _
    refine XS.aloadN X17.here hx rfl (hb hby d3_135) rfl rfl ?_
    show Steps p.tables e below (T17.setTop (mkF m 136 #[.val (.ref a1), .val (.int p2), .val (.int p3), .val (.int p4), .val (.int (0 : Int32)), .val (.int (0 : Int32)), .val (.int (0 : Int32))] [(.ref a1)])) _
    refine st22 _ ?_
    show Steps p.tables e below (T22.setTop (mkF m 139 #[.val (.ref a1), .val (.int p2), .val (.int p3), .val (.int p4), .val (.int (0 : Int32)), .val (.int (0 : Int32)), .val (.int (0 : Int32))] [(.ref a8)])) _
    refine XS.iload X22.here hx rfl (hb hby d3_139) rfl ?_
    show Steps p.tables e below (T22.setTop (mkF m 141 #[.val (.ref a1), .val (.int p2), .val (.int p3), .val (.int p4), .val (.int (0 : Int32)), .val (.int (0 : Int32)), .val (.int (0 : Int32))] [(.int (0 : Int32)), (.ref a8)])) _
    refine X22.aaload hx (j := (0 : Int32)) (v := (.ref a12)) (by rw [e22]; exact Ar23.1) (State.isArrayOf_alike hZ.alike Ar23.2.1) rfl Ar23.2.2 hin23 hat23 (g := (mkF m 141 #[.val (.ref a1), .val (.int p2), .val (.int p3), .val (.int p4), .val (.int (0 : Int32)), .val (.int (0 : Int32)), .val (.int (0 : Int32))] [(.int (0 : Int32)), (.ref a8)])) rfl rfl (hb hby d3_141) _ ?_
    show Steps p.tables e below (T22.setTop (mkF m 142 #[.val (.ref a1), .val (.int p2), .val (.int p3), .val (.int p4), .val (.int (0 : Int32)), .val (.int (0 : Int32)), .val (.int (0 : Int32))] [(.ref a12)])) _
    refine XS.iload X22.here hx rfl (hb hby d3_142) rfl ?_
    show Steps p.tables e below (T22.setTop (mkF m 144 #[.val (.ref a1), .val (.int p2), .val (.int p3), .val (.int p4), .val (.int (0 : Int32)), .val (.int (0 : Int32)), .val (.int (0 : Int32))] [(.int (0 : Int32)), (.ref a12)])) _
    refine XS.iloadN X22.here hx rfl (hb hby d3_144) rfl ?_
    show Steps p.tables e below (T22.setTop (mkF m 145 #[.val (.ref a1), .val (.int p2), .val (.int p3), .val (.int p4), .val (.int (0 : Int32)), .val (.int (0 : Int32)), .val (.int (0 : Int32))] [(.int p2), (.int (0 : Int32)), (.ref a12)])) _
    refine st26 _ ?_
    show Steps p.tables e below (T26.setTop (mkF m 146 #[.val (.ref a1), .val (.int p2), .val (.int p3), .val (.int p4), .val (.int (0 : Int32)), .val (.int (0 : Int32)), .val (.int (0 : Int32))] [])) _
    refine XS.aloadN X26.here hx rfl (hb hby d3_146) rfl rfl ?_
    show Steps p.tables e below (T26.setTop (mkF m 147 #[.val (.ref a1), .val (.int p2), .val (.int p3), .val (.int p4), .val (.int (0 : Int32)), .val (.int (0 : Int32)), .val (.int (0 : Int32))] [(.ref a1)])) _
    refine st29 _ ?_
    show Steps p.tables e below (T29.setTop (mkF m 150 #[.val (.ref a1), .val (.int p2), .val (.int p3), .val (.int p4), .val (.int (0 : Int32)), .val (.int (0 : Int32)), .val (.int (0 : Int32))] [(.ref a8)])) _
    refine XS.iload X29.here hx rfl (hb hby d3_150) rfl ?_
    show Steps p.tables e below (T29.setTop (mkF m 152 #[.val (.ref a1), .val (.int p2), .val (.int p3), .val (.int p4), .val (.int (0 : Int32)), .val (.int (0 : Int32)), .val (.int (0 : Int32))] [(.int (0 : Int32)), (.ref a8)])) _
    refine X29.aaload hx (j := (0 : Int32)) (v := (.ref a12)) (by rw [e29]; exact Ar31.1) (State.isArrayOf_alike hZ.alike Ar31.2.1) rfl Ar31.2.2 hin31 hat31 (g := (mkF m 152 #[.val (.ref a1), .val (.int p2), .val (.int p3), .val (.int p4), .val (.int (0 : Int32)), .val (.int (0 : Int32)), .val (.int (0 : Int32))] [(.int (0 : Int32)), (.ref a8)])) rfl rfl (hb hby d3_152) _ ?_
    show Steps p.tables e below (T29.setTop (mkF m 153 #[.val (.ref a1), .val (.int p2), .val (.int p3), .val (.int p4), .val (.int (0 : Int32)), .val (.int (0 : Int32)), .val (.int (0 : Int32))] [(.ref a12)])) _
    refine XS.iload X29.here hx rfl (hb hby d3_153) rfl ?_
    show Steps p.tables e below (T29.setTop (mkF m 155 #[.val (.ref a1), .val (.int p2), .val (.int p3), .val (.int p4), .val (.int (0 : Int32)), .val (.int (0 : Int32)), .val (.int (0 : Int32))] [(.int (0 : Int32)), (.ref a12)])) _
    refine XS.iconst X29.here hx rfl (hb hby d3_155) ?_
    show Steps p.tables e below (T29.setTop (mkF m 156 #[.val (.ref a1), .val (.int p2), .val (.int p3), .val (.int p4), .val (.int (0 : Int32)), .val (.int (0 : Int32)), .val (.int (0 : Int32))] [(.int (1 : Int32)), (.int (0 : Int32)), (.ref a12)])) _
    refine XS.iadd X29.here hx rfl (hb hby d3_156) rfl ?_
    show Steps p.tables e below (T29.setTop (mkF m 157 #[.val (.ref a1), .val (.int p2), .val (.int p3), .val (.int p4), .val (.int (0 : Int32)), .val (.int (0 : Int32)), .val (.int (0 : Int32))] [(.int ((0 : Int32) + (1 : Int32))), (.ref a12)])) _
    rw [show ((0 : Int32) + (1 : Int32)) = (1 : Int32) from by decide]
    show Steps p.tables e below (T29.setTop (mkF m 157 #[.val (.ref a1), .val (.int p2), .val (.int p3), .val (.int p4), .val (.int (0 : Int32)), .val (.int (0 : Int32)), .val (.int (0 : Int32))] [(.int (1 : Int32)), (.ref a12)])) _
    refine XS.iloadN X29.here hx rfl (hb hby d3_157) rfl ?_
    show Steps p.tables e below (T29.setTop (mkF m 158 #[.val (.ref a1), .val (.int p2), .val (.int p3), .val (.int p4), .val (.int (0 : Int32)), .val (.int (0 : Int32)), .val (.int (0 : Int32))] [(.int p3), (.int (1 : Int32)), (.ref a12)])) _
    refine st34 _ ?_
    show Steps p.tables e below (T34.setTop (mkF m 159 #[.val (.ref a1), .val (.int p2), .val (.int p3), .val (.int p4), .val (.int (0 : Int32)), .val (.int (0 : Int32)), .val (.int (0 : Int32))] [])) _
    refine XS.aloadN X34.here hx rfl (hb hby d3_159) rfl rfl ?_
    show Steps p.tables e below (T34.setTop (mkF m 160 #[.val (.ref a1), .val (.int p2), .val (.int p3), .val (.int p4), .val (.int (0 : Int32)), .val (.int (0 : Int32)), .val (.int (0 : Int32))] [(.ref a1)])) _
    refine st36 _ ?_
    show Steps p.tables e below (T36.setTop (mkF m 163 #[.val (.ref a1), .val (.int p2), .val (.int p3), .val (.int p4), .val (.int (0 : Int32)), .val (.int (0 : Int32)), .val (.int (0 : Int32))] [(.ref a8)])) _
    refine XS.iload X36.here hx rfl (hb hby d3_163) rfl ?_
    show Steps p.tables e below (T36.setTop (mkF m 165 #[.val (.ref a1), .val (.int p2), .val (.int p3), .val (.int p4), .val (.int (0 : Int32)), .val (.int (0 : Int32)), .val (.int (0 : Int32))] [(.int (0 : Int32)), (.ref a8)])) _
    refine X36.aaload hx (j := (0 : Int32)) (v := (.ref a12)) (by rw [e36]; exact Ar38.1) (State.isArrayOf_alike hZ.alike Ar38.2.1) rfl Ar38.2.2 hin38 hat38 (g := (mkF m 165 #[.val (.ref a1), .val (.int p2), .val (.int p3), .val (.int p4), .val (.int (0 : Int32)), .val (.int (0 : Int32)), .val (.int (0 : Int32))] [(.int (0 : Int32)), (.ref a8)])) rfl rfl (hb hby d3_165) _ ?_
    show Steps p.tables e below (T36.setTop (mkF m 166 #[.val (.ref a1), .val (.int p2), .val (.int p3), .val (.int p4), .val (.int (0 : Int32)), .val (.int (0 : Int32)), .val (.int (0 : Int32))] [(.ref a12)])) _
    refine XS.iload X36.here hx rfl (hb hby d3_166) rfl ?_
    show Steps p.tables e below (T36.setTop (mkF m 168 #[.val (.ref a1), .val (.int p2), .val (.int p3), .val (.int p4), .val (.int (0 : Int32)), .val (.int (0 : Int32)), .val (.int (0 : Int32))] [(.int (0 : Int32)), (.ref a12)])) _
    refine XS.iconst X36.here hx rfl (hb hby d3_168) ?_
    show Steps p.tables e below (T36.setTop (mkF m 169 #[.val (.ref a1), .val (.int p2), .val (.int p3), .val (.int p4), .val (.int (0 : Int32)), .val (.int (0 : Int32)), .val (.int (0 : Int32))] [(.int (2 : Int32)), (.int (0 : Int32)), (.ref a12)])) _
    refine XS.iadd X36.here hx rfl (hb hby d3_169) rfl ?_
    show Steps p.tables e below (T36.setTop (mkF m 170 #[.val (.ref a1), .val (.int p2), .val (.int p3), .val (.int p4), .val (.int (0 : Int32)), .val (.int (0 : Int32)), .val (.int (0 : Int32))] [(.int ((0 : Int32) + (2 : Int32))), (.ref a12)])) _
    rw [show ((0 : Int32) + (2 : Int32)) = (2 : Int32) from by decide]
    show Steps p.tables e below (T36.setTop (mkF m 170 #[.val (.ref a1), .val (.int p2), .val (.int p3), .val (.int p4), .val (.int (0 : Int32)), .val (.int (0 : Int32)), .val (.int (0 : Int32))] [(.int (2 : Int32)), (.ref a12)])) _
    refine XS.iloadN X36.here hx rfl (hb hby d3_170) rfl ?_
    show Steps p.tables e below (T36.setTop (mkF m 171 #[.val (.ref a1), .val (.int p2), .val (.int p3), .val (.int p4), .val (.int (0 : Int32)), .val (.int (0 : Int32)), .val (.int (0 : Int32))] [(.int p4), (.int (2 : Int32)), (.ref a12)])) _
    refine st41 _ ?_
    show Steps p.tables e below (T41.setTop (mkF m 172 #[.val (.ref a1), .val (.int p2), .val (.int p3), .val (.int p4), .val (.int (0 : Int32)), .val (.int (0 : Int32)), .val (.int (0 : Int32))] [])) _
    refine XS.aloadN X41.here hx rfl (hb hby d3_172) rfl rfl ?_
    show Steps p.tables e below (T41.setTop (mkF m 173 #[.val (.ref a1), .val (.int p2), .val (.int p3), .val (.int p4), .val (.int (0 : Int32)), .val (.int (0 : Int32)), .val (.int (0 : Int32))] [(.ref a1)])) _
    refine XS.dup X41.here hx rfl (hb hby d3_173) rfl rfl ?_
    show Steps p.tables e below (T41.setTop (mkF m 174 #[.val (.ref a1), .val (.int p2), .val (.int p3), .val (.int p4), .val (.int (0 : Int32)), .val (.int (0 : Int32)), .val (.int (0 : Int32))] [(.ref a1), (.ref a1)])) _
    refine st43 _ ?_
    show Steps p.tables e below (T43.setTop (mkF m 177 #[.val (.ref a1), .val (.int p2), .val (.int p3), .val (.int p4), .val (.int (0 : Int32)), .val (.int (0 : Int32)), .val (.int (0 : Int32))] [(.int (0 : Int32)), (.ref a1)])) _
    refine XS.iconst X43.here hx rfl (hb hby d3_177) ?_
    show Steps p.tables e below (T43.setTop (mkF m 178 #[.val (.ref a1), .val (.int p2), .val (.int p3), .val (.int p4), .val (.int (0 : Int32)), .val (.int (0 : Int32)), .val (.int (0 : Int32))] [(.int (1 : Int32)), (.int (0 : Int32)), (.ref a1)])) _
    refine XS.iadd X43.here hx rfl (hb hby d3_178) rfl ?_
    show Steps p.tables e below (T43.setTop (mkF m 179 #[.val (.ref a1), .val (.int p2), .val (.int p3), .val (.int p4), .val (.int (0 : Int32)), .val (.int (0 : Int32)), .val (.int (0 : Int32))] [(.int ((0 : Int32) + (1 : Int32))), (.ref a1)])) _
    rw [show ((0 : Int32) + (1 : Int32)) = (1 : Int32) from by decide]
    show Steps p.tables e below (T43.setTop (mkF m 179 #[.val (.ref a1), .val (.int p2), .val (.int p3), .val (.int p4), .val (.int (0 : Int32)), .val (.int (0 : Int32)), .val (.int (0 : Int32))] [(.int (1 : Int32)), (.ref a1)])) _
    refine st46 _ ?_
    show Steps p.tables e below (T46.setTop (mkF m 182 #[.val (.ref a1), .val (.int p2), .val (.int p3), .val (.int p4), .val (.int (0 : Int32)), .val (.int (0 : Int32)), .val (.int (0 : Int32))] [])) _
    refine XS.iload X46.here hx rfl (hb hby d3_182) rfl ?_
    show Steps p.tables e below (T46.setTop (mkF m 184 #[.val (.ref a1), .val (.int p2), .val (.int p3), .val (.int p4), .val (.int (0 : Int32)), .val (.int (0 : Int32)), .val (.int (0 : Int32))] [(.int (0 : Int32))])) _
    exact retI X46 hx Bd.returns (hb hby d3_184) hr
  · show Qrm3 Z a1 p2 p3 p4 a8 k11 a12 k19 h0 n0 _ T46.heap _
    rw [e46]
    exact ⟨rfl, N46, K46, f47, f48, Fw46, f49, f50⟩
theorem pd_2 : parseMethodDescriptor "(III)I" = some ⟨[.int, .int, .int], some .int⟩ := by decide +kernel
theorem d4_0 : decode prog_108_method_4_code 0 = .ok (.aload_n 0, 1) := by decide +kernel
theorem d4_1 : decode prog_108_method_4_code 1 = .ok (.getfield 11, 3) := by decide +kernel
theorem d4_4 : decode prog_108_method_4_code 4 = .ok (.iload_n 1, 1) := by decide +kernel
theorem d4_5 : decode prog_108_method_4_code 5 = .ok (.bipush 15, 2) := by decide +kernel
theorem d4_7 : decode prog_108_method_4_code 7 = .ok (.iushr, 1) := by decide +kernel
theorem d4_8 : decode prog_108_method_4_code 8 = .ok (.aaload, 1) := by decide +kernel
theorem d4_9 : decode prog_108_method_4_code 9 = .ok (.iconst 3, 1) := by decide +kernel
theorem d4_10 : decode prog_108_method_4_code 10 = .ok (.iload_n 1, 1) := by decide +kernel
theorem d4_11 : decode prog_108_method_4_code 11 = .ok (.sipush 32767, 3) := by decide +kernel
theorem d4_14 : decode prog_108_method_4_code 14 = .ok (.iand, 1) := by decide +kernel
theorem d4_15 : decode prog_108_method_4_code 15 = .ok (.imul, 1) := by decide +kernel
theorem d4_16 : decode prog_108_method_4_code 16 = .ok (.iconst 1, 1) := by decide +kernel
theorem d4_17 : decode prog_108_method_4_code 17 = .ok (.iadd, 1) := by decide +kernel
theorem d4_18 : decode prog_108_method_4_code 18 = .ok (.iaload, 1) := by decide +kernel
theorem d4_19 : decode prog_108_method_4_code 19 = .ok (.ireturn, 1) := by decide +kernel
theorem ef_4_RI (m : MethodId) (x0 : Addr) (x1 : Int32) : entryFrame m #[(.ref x0), (.int x1)] 2 = mkF m 0 #[.val (.ref x0), .val (.int x1)] [] := by first | (simp [entryFrame, mkF, argsToLocals, Value.category]; done) | rfl
def Qrm4 (Z : State) (a1 : Addr) (a2 : Addr) (k5 : ClassId) (a6 : Addr) (k9 : ClassId) (p10 : Int32) (p11 : Int32) (p12 : Int32) (h0 : Heap) (n0 : Nat) (v : Option Value) (h : Heap) (L : List Loc) : Prop := v = some (.int p11) ∧ Fr n0 L ∧ h = h0
set_option maxRecDepth 65536 in
set_option maxHeartbeats 40000000 in
theorem rm4 (l : Launch) (Z : State) (a0 : Array Value) (hw : ∀ d ∈ tables_1, d.before a0 Z = true) (ws : List Jvm.Cond) (a1 : Addr) (a2 : Addr) (k5 : ClassId) (a6 : Addr) (k9 : ClassId) (p10 : Int32) (p11 : Int32) (p12 : Int32) (h0 : Heap) (n0 : Nat) (O0 : Old Z n0 h0) (F_3 : Fld Z h0 a1 "com/example/rokin/rokin/store/TripleColumns" "pages" "[[I" (.ref a2)) (V_7 : Arv Z h0 a2 k5 (.array .int) (1 : Int32) [(.ref a6)] .null) (V_13 : Arv Z h0 a6 k9 .int (3072 : Int32) [(.int p10), (.int p11), (.int p12)] (.int (0 : Int32))) :
    MetFree l (⟨"com/example/rokin/rokin/store/TripleColumns", "predicate", "(I)I"⟩ : MethodName) (head1 (Jvm.Cond.code (⟨"com/example/rokin/rokin/store/TripleColumns", "predicate", "(I)I"⟩ : MethodName) prog_108_method_4_code 2 (some .int) :: ws) ({ frames := 0, cells := 0, slots := 0, locals := 0 } : Room)) (fun a U => a = #[(.ref a1), (.int (0 : Int32))] ∧ Z.Warmed39 U.vm ∧ U.heap = h0) (fun _ _ _ _ _ => True) (fun _ U o U' => ∃ v L, o = .returned v ∧ Qrm4 Z a1 a2 k5 a6 k9 p10 p11 p12 h0 n0 v U'.heap L ∧ FrameEnd U o U' L ({ frames := 0, cells := 0, slots := 0, locals := 0 } : Room).cells ({ frames := 0, cells := 0, slots := 0, locals := 0 } : Room).slots) := by
  refine MetFree.of_bodySF (plainFor_of_name pn_0) hisR ?_
  intro p e s m args below meth c s₁ Bd hml0 hP hK
  obtain ⟨rfl, hZ, hh⟩ := hP
  have hx := Bd.exec
  have hby := Bd.bytes
  have hml : c.maxLocals = 2 := hml0
  have hown : s.vm.findClass "com/example/rokin/rokin/store/TripleColumns" = some m.cls := findClass_of_methodNamed Bd.named
  have hnm := (name_of_methodNamed Bd.named Bd.method).1
  have X0 : Stand p l e ({ frames := 0, cells := 0, slots := 0, locals := 0 } : Room) s m #[(.ref a1), (.int (0 : Int32))] below meth c s₁ [] 0 0 := Stand.of_body Bd
  have e0 : s₁.heap = h0 := by rw [← hh, Bd.state]; rfl
  have N0 := Fr.nil n0
  have pre0 : ∀ t, Steps p.tables e below (s₁.setTop (mkF m 0 #[.val (.ref a1), .val (.int (0 : Int32))] [])) t → Steps p.tables e below (s₁.setTop (entryFrame m #[(.ref a1), (.int (0 : Int32))] 2)) t := fun t k => castTop (ef_4_RI m a1 (0 : Int32)) k
  obtain ⟨T4, X4, e4, st4⟩ := getF X0 hx hZ hown (host := "") (Or.inl (hw _ (List.mem_of_getElem? (i := 13) rfl))) Via.refl e0 F_3 (g := (mkF m 1 #[.val (.ref a1), .val (.int (0 : Int32))] [(.ref a1)])) rfl rfl (hb hby d4_1)
  obtain ⟨cl8, Ar8, q8, S8, M8, Hs8, G8⟩ := id V_7
  have hin8 : ¬ ((0 : Int32) < 0 ∨ cl8.slots.size ≤ ((0 : Int32)).toNatClampNeg) := inb_of S8 ⟨by decide, by decide⟩
  have hat8 : cl8.slots[((0 : Int32)).toNatClampNeg]? = some (.ref a6) := Has.at Hs8 hin8 rfl
  obtain ⟨cl14, Ar14, q14, S14, M14, Hs14, G14⟩ := id V_13
  have hin14 : ¬ ((1 : Int32) < 0 ∨ cl14.slots.size ≤ ((1 : Int32)).toNatClampNeg) := inb_of S14 ⟨by decide, by decide⟩
  have hat14 : cl14.slots[((1 : Int32)).toNatClampNeg]? = some (.int p11) := Has.at Hs14 hin14 rfl
  obtain ⟨fs, hr, hrun, hended, hW, hsame⟩ := X4.leave (v := some (.int p11)) (fun h => by rw [Bd.returns] at h; cases h)
  refine ⟨_, _, pre0 _ ?_, hrun, hended, _, _, rfl, ?_, ⟨_, rfl⟩, hW, hsame.mono (by decide) (by decide)⟩
  · show Steps p.tables e below (s₁.setTop (mkF m 0 #[.val (.ref a1), .val (.int (0 : Int32))] [])) _
    refine XS.aloadN X0.here hx rfl (hb hby d4_0) rfl rfl ?_
    show Steps p.tables e below (s₁.setTop (mkF m 1 #[.val (.ref a1), .val (.int (0 : Int32))] [(.ref a1)])) _
    refine st4 _ ?_
    show Steps p.tables e below (T4.setTop (mkF m 4 #[.val (.ref a1), .val (.int (0 : Int32))] [(.ref a2)])) _
    refine XS.iloadN X4.here hx rfl (hb hby d4_4) rfl ?_
    show Steps p.tables e below (T4.setTop (mkF m 5 #[.val (.ref a1), .val (.int (0 : Int32))] [(.int (0 : Int32)), (.ref a2)])) _
    refine XS.bipush X4.here hx rfl (hb hby d4_5) ?_
    show Steps p.tables e below (T4.setTop (mkF m 7 #[.val (.ref a1), .val (.int (0 : Int32))] [(.int (15 : Int32)), (.int (0 : Int32)), (.ref a2)])) _
    refine XS.iushr X4.here hx rfl (hb hby d4_7) rfl ?_
    show Steps p.tables e below (T4.setTop (mkF m 8 #[.val (.ref a1), .val (.int (0 : Int32))] [(.int (((0 : Int32).toUInt32 >>> ((15 : Int32) &&& 31).toUInt32).toInt32)), (.ref a2)])) _
    rw [show (((0 : Int32).toUInt32 >>> ((15 : Int32) &&& 31).toUInt32).toInt32) = (0 : Int32) from by decide]
    show Steps p.tables e below (T4.setTop (mkF m 8 #[.val (.ref a1), .val (.int (0 : Int32))] [(.int (0 : Int32)), (.ref a2)])) _
    refine X4.aaload hx (j := (0 : Int32)) (v := (.ref a6)) (by rw [e4]; exact Ar8.1) (State.isArrayOf_alike hZ.alike Ar8.2.1) rfl Ar8.2.2 hin8 hat8 (g := (mkF m 8 #[.val (.ref a1), .val (.int (0 : Int32))] [(.int (0 : Int32)), (.ref a2)])) rfl rfl (hb hby d4_8) _ ?_
    show Steps p.tables e below (T4.setTop (mkF m 9 #[.val (.ref a1), .val (.int (0 : Int32))] [(.ref a6)])) _
    refine XS.iconst X4.here hx rfl (hb hby d4_9) ?_
    show Steps p.tables e below (T4.setTop (mkF m 10 #[.val (.ref a1), .val (.int (0 : Int32))] [(.int (3 : Int32)), (.ref a6)])) _
    refine XS.iloadN X4.here hx rfl (hb hby d4_10) rfl ?_
    show Steps p.tables e below (T4.setTop (mkF m 11 #[.val (.ref a1), .val (.int (0 : Int32))] [(.int (0 : Int32)), (.int (3 : Int32)), (.ref a6)])) _
    refine XS.sipush X4.here hx rfl (hb hby d4_11) ?_
    show Steps p.tables e below (T4.setTop (mkF m 14 #[.val (.ref a1), .val (.int (0 : Int32))] [(.int (32767 : Int32)), (.int (0 : Int32)), (.int (3 : Int32)), (.ref a6)])) _
    refine XS.iand X4.here hx rfl (hb hby d4_14) rfl ?_
    show Steps p.tables e below (T4.setTop (mkF m 15 #[.val (.ref a1), .val (.int (0 : Int32))] [(.int ((0 : Int32) &&& (32767 : Int32))), (.int (3 : Int32)), (.ref a6)])) _
    rw [show ((0 : Int32) &&& (32767 : Int32)) = (0 : Int32) from by decide]
    show Steps p.tables e below (T4.setTop (mkF m 15 #[.val (.ref a1), .val (.int (0 : Int32))] [(.int (0 : Int32)), (.int (3 : Int32)), (.ref a6)])) _
    refine XS.imul X4.here hx rfl (hb hby d4_15) rfl ?_
    show Steps p.tables e below (T4.setTop (mkF m 16 #[.val (.ref a1), .val (.int (0 : Int32))] [(.int ((3 : Int32) * (0 : Int32))), (.ref a6)])) _
    rw [show ((3 : Int32) * (0 : Int32)) = (0 : Int32) from by decide]
    show Steps p.tables e below (T4.setTop (mkF m 16 #[.val (.ref a1), .val (.int (0 : Int32))] [(.int (0 : Int32)), (.ref a6)])) _
    refine XS.iconst X4.here hx rfl (hb hby d4_16) ?_
    show Steps p.tables e below (T4.setTop (mkF m 17 #[.val (.ref a1), .val (.int (0 : Int32))] [(.int (1 : Int32)), (.int (0 : Int32)), (.ref a6)])) _
    refine XS.iadd X4.here hx rfl (hb hby d4_17) rfl ?_
    show Steps p.tables e below (T4.setTop (mkF m 18 #[.val (.ref a1), .val (.int (0 : Int32))] [(.int ((0 : Int32) + (1 : Int32))), (.ref a6)])) _
    rw [show ((0 : Int32) + (1 : Int32)) = (1 : Int32) from by decide]
    show Steps p.tables e below (T4.setTop (mkF m 18 #[.val (.ref a1), .val (.int (0 : Int32))] [(.int (1 : Int32)), (.ref a6)])) _
    refine X4.iaload hx (j := (1 : Int32)) (v := (.int p11)) (by rw [e4]; exact Ar14.1) (State.isArrayOf_alike hZ.alike Ar14.2.1) Ar14.2.2 hin14 hat14 (g := (mkF m 18 #[.val (.ref a1), .val (.int (0 : Int32))] [(.int (1 : Int32)), (.ref a6)])) rfl rfl (hb hby d4_18) _ ?_
    show Steps p.tables e below (T4.setTop (mkF m 19 #[.val (.ref a1), .val (.int (0 : Int32))] [(.int p11)])) _
    exact retI X4 hx Bd.returns (hb hby d4_19) hr
  · show Qrm4 Z a1 a2 k5 a6 k9 p10 p11 p12 h0 n0 _ T4.heap _
    rw [e4]
    exact ⟨rfl, N0, rfl⟩
theorem pd_3 : parseMethodDescriptor "(I)I" = some ⟨[.int], some .int⟩ := by decide +kernel
def Qrm3_1 (Z : State) (a1 : Addr) (p2 : Int32) (p3 : Int32) (p4 : Int32) (a8 : Addr) (k11 : ClassId) (a12 : Addr) (k19 : ClassId) (p20 : Int32) (p21 : Int32) (p22 : Int32) (h0 : Heap) (n0 : Nat) (v : Option Value) (h : Heap) (L : List Loc) : Prop := v = some (.int (1 : Int32)) ∧ Fr n0 L ∧ Keep h0 h [a12, a1] ∧ Arv Z h a12 k19 .int (3072 : Int32) [(.int p20), (.int p21), (.int p22), (.int p2), (.int p3), (.int p4)] (.int (0 : Int32)) ∧ Exa Z h a12 "[I" ∧ Fld Z h a1 "com/example/rokin/rokin/store/TripleColumns" "size" "I" (.int (2 : Int32)) ∧ Fld Z h a1 "com/example/rokin/rokin/store/TripleColumns" "pages" "[[I" (.ref a8) ∧ Exa Z h a1 "com/example/rokin/rokin/store/TripleColumns"
set_option maxRecDepth 65536 in
set_option maxHeartbeats 40000000 in
theorem rm3_1 (l : Launch) (Z : State) (a0 : Array Value) (hw : ∀ d ∈ tables_1, d.before a0 Z = true) (ws : List Jvm.Cond) (a1 : Addr) (p2 : Int32) (p3 : Int32) (p4 : Int32) (a8 : Addr) (k11 : ClassId) (a12 : Addr) (k19 : ClassId) (p20 : Int32) (p21 : Int32) (p22 : Int32) (h0 : Heap) (n0 : Nat) (O0 : Old Z n0 h0) (F_5 : Fld Z h0 a1 "com/example/rokin/rokin/store/TripleColumns" "size" "I" (.int (1 : Int32))) (F_9 : Fld Z h0 a1 "com/example/rokin/rokin/store/TripleColumns" "pages" "[[I" (.ref a8)) (V_13 : Arv Z h0 a8 k11 (.array .int) (1 : Int32) [(.ref a12)] .null) (V_23 : Arv Z h0 a12 k19 .int (3072 : Int32) [(.int p20), (.int p21), (.int p22)] (.int (0 : Int32))) (g_a12 : n0 ≤ a12) (E_30 : Exa Z h0 a12 "[I") (ne_a1_a12 : a1 ≠ a12) (ne_a8_a12 : a8 ≠ a12) (E_47 : Exa Z h0 a1 "com/example/rokin/rokin/store/TripleColumns") (g_a1 : n0 ≤ a1) :
    MetFree l (⟨"com/example/rokin/rokin/store/TripleColumns", "add", "(III)I"⟩ : MethodName) (head1 (Jvm.Cond.code (⟨"com/example/rokin/rokin/store/TripleColumns", "add", "(III)I"⟩ : MethodName) prog_108_method_6_code 7 (some .int) :: ws) ({ frames := 0, cells := 0, slots := 0, locals := 0 } : Room)) (fun a U => a = #[(.ref a1), (.int p2), (.int p3), (.int p4)] ∧ Z.Warmed39 U.vm ∧ U.heap = h0) (fun _ _ _ _ _ => True) (fun _ U o U' => ∃ v L, o = .returned v ∧ Qrm3_1 Z a1 p2 p3 p4 a8 k11 a12 k19 p20 p21 p22 h0 n0 v U'.heap L ∧ FrameEnd U o U' L ({ frames := 0, cells := 0, slots := 0, locals := 0 } : Room).cells ({ frames := 0, cells := 0, slots := 0, locals := 0 } : Room).slots) := by
  refine MetFree.of_bodySF (plainFor_of_name pn_0) hisR ?_
  intro p e s m args below meth c s₁ Bd hml0 hP hK
  obtain ⟨rfl, hZ, hh⟩ := hP
  have hx := Bd.exec
  have hby := Bd.bytes
  have hml : c.maxLocals = 7 := hml0
  have hown : s.vm.findClass "com/example/rokin/rokin/store/TripleColumns" = some m.cls := findClass_of_methodNamed Bd.named
  have hnm := (name_of_methodNamed Bd.named Bd.method).1
  have X0 : Stand p l e ({ frames := 0, cells := 0, slots := 0, locals := 0 } : Room) s m #[(.ref a1), (.int p2), (.int p3), (.int p4)] below meth c s₁ [] 0 0 := Stand.of_body Bd
  have e0 : s₁.heap = h0 := by rw [← hh, Bd.state]; rfl
  have N0 := Fr.nil n0
  have pre0 : ∀ t, Steps p.tables e below (s₁.setTop (mkF m 0 #[.val (.ref a1), .val (.int p2), .val (.int p3), .val (.int p4), .unset, .unset, .unset] [])) t → Steps p.tables e below (s₁.setTop (entryFrame m #[(.ref a1), (.int p2), (.int p3), (.int p4)] 7)) t := fun t k => castTop (ef_3_RIII m a1 p2 p3 p4) k
  obtain ⟨T6, X6, e6, st6⟩ := getF X0 hx hZ hown (host := "") (Or.inl (hw _ (List.mem_of_getElem? (i := 20) rfl))) Via.refl e0 F_5 (g := (mkF m 1 #[.val (.ref a1), .val (.int p2), .val (.int p3), .val (.int p4), .unset, .unset, .unset] [(.ref a1)])) rfl rfl (hb hby d3_1)
  obtain ⟨T7, X7, e7, st7⟩ := getF X6 hx hZ hown (host := "") (Or.inl (hw _ (List.mem_of_getElem? (i := 20) rfl))) Via.refl e6 F_5 (g := (mkF m 27 #[.val (.ref a1), .val (.int p2), .val (.int p3), .val (.int p4), .unset, .unset, .unset] [(.ref a1)])) rfl rfl (hb hby d3_27)
  obtain ⟨T10, X10, e10, st10⟩ := getF X7 hx hZ hown (host := "") (Or.inl (hw _ (List.mem_of_getElem? (i := 13) rfl))) Via.refl e7 F_9 (g := (mkF m 52 #[.val (.ref a1), .val (.int p2), .val (.int p3), .val (.int p4), .val (.int (1 : Int32)), .val (.int (0 : Int32)), .val (.int (3 : Int32))] [(.ref a1), (.int (0 : Int32))])) rfl rfl (hb hby d3_52)
  obtain ⟨cl14, Ar14, q14, S14, M14, Hs14, G14⟩ := id V_13
  obtain ⟨T15, X15, e15, st15⟩ := getF X10 hx hZ hown (host := "") (Or.inl (hw _ (List.mem_of_getElem? (i := 13) rfl))) Via.refl e10 F_9 (g := (mkF m 78 #[.val (.ref a1), .val (.int p2), .val (.int p3), .val (.int p4), .val (.int (1 : Int32)), .val (.int (0 : Int32)), .val (.int (3 : Int32))] [(.ref a1)])) rfl rfl (hb hby d3_78)
  obtain ⟨cl16, Ar16, q16, S16, M16, Hs16, G16⟩ := id V_13
  have hin16 : ¬ ((0 : Int32) < 0 ∨ cl16.slots.size ≤ ((0 : Int32)).toNatClampNeg) := inb_of S16 ⟨by decide, by decide⟩
  have hat16 : cl16.slots[((0 : Int32)).toNatClampNeg]? = some (.ref a12) := Has.at Hs16 hin16 rfl
  obtain ⟨T17, X17, e17, st17⟩ := getF X15 hx hZ hown (host := "") (Or.inl (hw _ (List.mem_of_getElem? (i := 13) rfl))) Via.refl e15 F_9 (g := (mkF m 104 #[.val (.ref a1), .val (.int p2), .val (.int p3), .val (.int p4), .val (.int (1 : Int32)), .val (.int (0 : Int32)), .val (.int (3 : Int32))] [(.ref a1), (.int (3 : Int32))])) rfl rfl (hb hby d3_104)
  obtain ⟨cl18, Ar18, q18, S18, M18, Hs18, G18⟩ := id V_13
  have hin18 : ¬ ((0 : Int32) < 0 ∨ cl18.slots.size ≤ ((0 : Int32)).toNatClampNeg) := inb_of S18 ⟨by decide, by decide⟩
  have hat18 : cl18.slots[((0 : Int32)).toNatClampNeg]? = some (.ref a12) := Has.at Hs18 hin18 rfl
  obtain ⟨cl24, Ar24, q24, S24, M24, Hs24, G24⟩ := id V_23
  obtain ⟨T25, X25, e25, st25⟩ := getF X17 hx hZ hown (host := "") (Or.inl (hw _ (List.mem_of_getElem? (i := 13) rfl))) Via.refl e17 F_9 (g := (mkF m 136 #[.val (.ref a1), .val (.int p2), .val (.int p3), .val (.int p4), .val (.int (1 : Int32)), .val (.int (0 : Int32)), .val (.int (3 : Int32))] [(.ref a1)])) rfl rfl (hb hby d3_136)
  obtain ⟨cl26, Ar26, q26, S26, M26, Hs26, G26⟩ := id V_13
  have hin26 : ¬ ((0 : Int32) < 0 ∨ cl26.slots.size ≤ ((0 : Int32)).toNatClampNeg) := inb_of S26 ⟨by decide, by decide⟩
  have hat26 : cl26.slots[((0 : Int32)).toNatClampNeg]? = some (.ref a12) := Has.at Hs26 hin26 rfl
  have V27 : Arv Z h0 a12 k19 .int (3072 : Int32) [(.int p20), (.int p21), (.int p22), (.int (0 : Int32))] (.int (0 : Int32)) := V_23.pad (pad_rep [(.int p20), (.int p21), (.int p22)] (.int (0 : Int32)) 1)
  obtain ⟨cl28, Ar28, q28, S28, M28, Hs28, G28⟩ := id V27
  have hin28 : ¬ ((3 : Int32) < 0 ∨ cl28.slots.size ≤ ((3 : Int32)).toNatClampNeg) := inb_of S28 ⟨by decide, by decide⟩
  obtain ⟨T29, h29, X29, e29, W29, st29⟩ := stI X25 hx hZ e25 Ar28 (j := (3 : Int32)) hin28 (g := (mkF m 145 #[.val (.ref a1), .val (.int p2), .val (.int p3), .val (.int p4), .val (.int (1 : Int32)), .val (.int (0 : Int32)), .val (.int (3 : Int32))] [(.int p2), (.int (3 : Int32)), (.ref a12)])) rfl rfl (hb hby d3_145)
  have K29 : Keep h0 h29 [a12, a1] := (Keep.refl h0 [a12, a1]).wr W29 (Or.inl (List.mem_of_getElem? (i := 0) rfl))
  have O29 : Old Z n0 h29 := O0.wr W29 g_a12
  have N29 := Fr.snoc X29 N0 g_a12
  have Vw29 : Arv Z h29 a12 k19 .int (3072 : Int32) [(.int p20), (.int p21), (.int p22), (.int p2)] (.int (0 : Int32)) := Arv.set Ar28 q28 S28 M28 Hs28 G28 rfl W29 3 rfl (Nat.le_of_ble_eq_true rfl)
  have f31 : Fld Z h29 a1 "com/example/rokin/rokin/store/TripleColumns" "pages" "[[I" (.ref a8) := (F_9.other W29 (Or.inl ne_a1_a12))
  obtain ⟨T32, X32, e32, st32⟩ := getF X29 hx hZ hown (host := "") (Or.inl (hw _ (List.mem_of_getElem? (i := 13) rfl))) Via.refl e29 f31 (g := (mkF m 147 #[.val (.ref a1), .val (.int p2), .val (.int p3), .val (.int p4), .val (.int (1 : Int32)), .val (.int (0 : Int32)), .val (.int (3 : Int32))] [(.ref a1)])) rfl rfl (hb hby d3_147)
  have f33 : Arv Z h29 a8 k11 (.array .int) (1 : Int32) [(.ref a12)] .null := (V_13.other W29 ne_a8_a12)
  obtain ⟨cl34, Ar34, q34, S34, M34, Hs34, G34⟩ := id f33
  have hin34 : ¬ ((0 : Int32) < 0 ∨ cl34.slots.size ≤ ((0 : Int32)).toNatClampNeg) := inb_of S34 ⟨by decide, by decide⟩
  have hat34 : cl34.slots[((0 : Int32)).toNatClampNeg]? = some (.ref a12) := Has.at Hs34 hin34 rfl
  have V35 : Arv Z h29 a12 k19 .int (3072 : Int32) [(.int p20), (.int p21), (.int p22), (.int p2), (.int (0 : Int32))] (.int (0 : Int32)) := Vw29.pad (pad_rep [(.int p20), (.int p21), (.int p22), (.int p2)] (.int (0 : Int32)) 1)
  obtain ⟨cl36, Ar36, q36, S36, M36, Hs36, G36⟩ := id V35
  have hin36 : ¬ ((4 : Int32) < 0 ∨ cl36.slots.size ≤ ((4 : Int32)).toNatClampNeg) := inb_of S36 ⟨by decide, by decide⟩
  obtain ⟨T37, h37, X37, e37, W37, st37⟩ := stI X32 hx hZ e32 Ar36 (j := (4 : Int32)) hin36 (g := (mkF m 158 #[.val (.ref a1), .val (.int p2), .val (.int p3), .val (.int p4), .val (.int (1 : Int32)), .val (.int (0 : Int32)), .val (.int (3 : Int32))] [(.int p3), (.int (4 : Int32)), (.ref a12)])) rfl rfl (hb hby d3_158)
  have K37 : Keep h0 h37 [a12, a1] := K29.wr W37 (Or.inl (List.mem_of_getElem? (i := 0) rfl))
  have O37 : Old Z n0 h37 := O29.wr W37 g_a12
  have N37 := Fr.snoc X37 N29 g_a12
  have Vw37 : Arv Z h37 a12 k19 .int (3072 : Int32) [(.int p20), (.int p21), (.int p22), (.int p2), (.int p3)] (.int (0 : Int32)) := Arv.set Ar36 q36 S36 M36 Hs36 G36 rfl W37 4 rfl (Nat.le_of_ble_eq_true rfl)
  have f38 : Fld Z h37 a1 "com/example/rokin/rokin/store/TripleColumns" "pages" "[[I" (.ref a8) := (f31.other W37 (Or.inl ne_a1_a12))
  obtain ⟨T39, X39, e39, st39⟩ := getF X37 hx hZ hown (host := "") (Or.inl (hw _ (List.mem_of_getElem? (i := 13) rfl))) Via.refl e37 f38 (g := (mkF m 160 #[.val (.ref a1), .val (.int p2), .val (.int p3), .val (.int p4), .val (.int (1 : Int32)), .val (.int (0 : Int32)), .val (.int (3 : Int32))] [(.ref a1)])) rfl rfl (hb hby d3_160)
  have f40 : Arv Z h37 a8 k11 (.array .int) (1 : Int32) [(.ref a12)] .null := (f33.other W37 ne_a8_a12)
  obtain ⟨cl41, Ar41, q41, S41, M41, Hs41, G41⟩ := id f40
  have hin41 : ¬ ((0 : Int32) < 0 ∨ cl41.slots.size ≤ ((0 : Int32)).toNatClampNeg) := inb_of S41 ⟨by decide, by decide⟩
  have hat41 : cl41.slots[((0 : Int32)).toNatClampNeg]? = some (.ref a12) := Has.at Hs41 hin41 rfl
  have V42 : Arv Z h37 a12 k19 .int (3072 : Int32) [(.int p20), (.int p21), (.int p22), (.int p2), (.int p3), (.int (0 : Int32))] (.int (0 : Int32)) := Vw37.pad (pad_rep [(.int p20), (.int p21), (.int p22), (.int p2), (.int p3)] (.int (0 : Int32)) 1)
  obtain ⟨cl43, Ar43, q43, S43, M43, Hs43, G43⟩ := id V42
  have hin43 : ¬ ((5 : Int32) < 0 ∨ cl43.slots.size ≤ ((5 : Int32)).toNatClampNeg) := inb_of S43 ⟨by decide, by decide⟩
  obtain ⟨T44, h44, X44, e44, W44, st44⟩ := stI X39 hx hZ e39 Ar43 (j := (5 : Int32)) hin43 (g := (mkF m 171 #[.val (.ref a1), .val (.int p2), .val (.int p3), .val (.int p4), .val (.int (1 : Int32)), .val (.int (0 : Int32)), .val (.int (3 : Int32))] [(.int p4), (.int (5 : Int32)), (.ref a12)])) rfl rfl (hb hby d3_171)
  have K44 : Keep h0 h44 [a12, a1] := K37.wr W44 (Or.inl (List.mem_of_getElem? (i := 0) rfl))
  have O44 : Old Z n0 h44 := O37.wr W44 g_a12
  have N44 := Fr.snoc X44 N37 g_a12
  have Vw44 : Arv Z h44 a12 k19 .int (3072 : Int32) [(.int p20), (.int p21), (.int p22), (.int p2), (.int p3), (.int p4)] (.int (0 : Int32)) := Arv.set Ar43 q43 S43 M43 Hs43 G43 rfl W44 5 rfl (Nat.le_of_ble_eq_true rfl)
  have f45 : Fld Z h44 a1 "com/example/rokin/rokin/store/TripleColumns" "size" "I" (.int (1 : Int32)) := (((F_5.other W29 (Or.inl ne_a1_a12)).other W37 (Or.inl ne_a1_a12)).other W44 (Or.inl ne_a1_a12))
  obtain ⟨T46, X46, e46, st46⟩ := getF X44 hx hZ hown (host := "") (Or.inl (hw _ (List.mem_of_getElem? (i := 20) rfl))) Via.refl e44 f45 (g := (mkF m 174 #[.val (.ref a1), .val (.int p2), .val (.int p3), .val (.int p4), .val (.int (1 : Int32)), .val (.int (0 : Int32)), .val (.int (3 : Int32))] [(.ref a1), (.ref a1)])) rfl rfl (hb hby d3_174)
  have f48 : Exa Z h44 a1 "com/example/rokin/rokin/store/TripleColumns" := (((E_47.wr W29).wr W37).wr W44)
  obtain ⟨T49, h49, X49, e49, W49, st49⟩ := putF X46 hx hZ hown (host := "") (Or.inl (hw _ (List.mem_of_getElem? (i := 20) rfl))) Via.refl e46 f45 f48 (Or.inl (hw _ (List.mem_of_getElem? (i := 21) rfl))) (hw _ (List.mem_of_getElem? (i := 1) rfl)) (ty := .int) (by decide) rfl rfl (g := (mkF m 179 #[.val (.ref a1), .val (.int p2), .val (.int p3), .val (.int p4), .val (.int (1 : Int32)), .val (.int (0 : Int32)), .val (.int (3 : Int32))] [(.int (2 : Int32)), (.ref a1)])) rfl rfl (hb hby d3_179)
  have K49 : Keep h0 h49 [a12, a1] := K44.wr W49 (Or.inl (List.mem_of_getElem? (i := 1) rfl))
  have O49 : Old Z n0 h49 := O44.wr W49 g_a1
  have N49 := Fr.snoc X49 N44 g_a1
  have Fw49 : Fld Z h49 a1 "com/example/rokin/rokin/store/TripleColumns" "size" "I" (.int (2 : Int32)) := f45.same W49
  have f50 : Arv Z h49 a12 k19 .int (3072 : Int32) [(.int p20), (.int p21), (.int p22), (.int p2), (.int p3), (.int p4)] (.int (0 : Int32)) := (Vw44.other W49 (Ne.symm ne_a1_a12))
  have f51 : Exa Z h49 a12 "[I" := ((((E_30.wr W29).wr W37).wr W44).wr W49)
  have f52 : Fld Z h49 a1 "com/example/rokin/rokin/store/TripleColumns" "pages" "[[I" (.ref a8) := ((f38.other W44 (Or.inl ne_a1_a12)).other W49 (Or.inr (slot_ne (Or.inl (hw _ (List.mem_of_getElem? (i := 14) rfl))) (Or.inl (hw _ (List.mem_of_getElem? (i := 21) rfl))) (by decide) (t := (.array (.array .int))) (t' := .int) (by decide) (by decide))))
  have f53 : Exa Z h49 a1 "com/example/rokin/rokin/store/TripleColumns" := (f48.wr W49)
  obtain ⟨fs, hr, hrun, hended, hW, hsame⟩ := X49.leave (v := some (.int (1 : Int32))) (fun h => by rw [Bd.returns] at h; cases h)
  refine ⟨_, _, pre0 _ ?_, hrun, hended, _, _, rfl, ?_, ⟨_, rfl⟩, hW, hsame.mono (by decide) (by decide)⟩
  · show Steps p.tables e below (s₁.setTop (mkF m 0 #[.val (.ref a1), .val (.int p2), .val (.int p3), .val (.int p4), .unset, .unset, .unset] [])) _
    refine XS.aloadN X0.here hx rfl (hb hby d3_0) rfl rfl ?_
    show Steps p.tables e below (s₁.setTop (mkF m 1 #[.val (.ref a1), .val (.int p2), .val (.int p3), .val (.int p4), .unset, .unset, .unset] [(.ref a1)])) _
    refine st6 _ ?_
    show Steps p.tables e below (T6.setTop (mkF m 4 #[.val (.ref a1), .val (.int p2), .val (.int p3), .val (.int p4), .unset, .unset, .unset] [(.int (1 : Int32))])) _
    refine X6.ldcInt hx hown (mvT hZ (hw _ (List.mem_of_getElem? (i := 22) rfl))) (g := (mkF m 4 #[.val (.ref a1), .val (.int p2), .val (.int p3), .val (.int p4), .unset, .unset, .unset] [(.int (1 : Int32))])) rfl (hb hby d3_4) _ ?_
    show Steps p.tables e below (T6.setTop (mkF m 6 #[.val (.ref a1), .val (.int p2), .val (.int p3), .val (.int p4), .unset, .unset, .unset] [(.int (2147483647 : Int32)), (.int (1 : Int32))])) _
    refine XS.icmpYes X6.here hx rfl (pc0 := 6) (pc' := 26) rfl (hb hby d3_6) rfl (feq ((by decide) : ¬ ((1 : Int32) = (2147483647 : Int32)))).2 (by decide) (by decide) ?_
    show Steps p.tables e below (T6.setTop (mkF m 26 #[.val (.ref a1), .val (.int p2), .val (.int p3), .val (.int p4), .unset, .unset, .unset] [])) _
    refine XS.aloadN X6.here hx rfl (hb hby d3_26) rfl rfl ?_
    show Steps p.tables e below (T6.setTop (mkF m 27 #[.val (.ref a1), .val (.int p2), .val (.int p3), .val (.int p4), .unset, .unset, .unset] [(.ref a1)])) _
    refine st7 _ ?_
    show Steps p.tables e below (T7.setTop (mkF m 30 #[.val (.ref a1), .val (.int p2), .val (.int p3), .val (.int p4), .unset, .unset, .unset] [(.int (1 : Int32))])) _
    refine XS.istore X7.here hx rfl (hb hby d3_30) rfl (l' := #[.val (.ref a1), .val (.int p2), .val (.int p3), .val (.int p4), .val (.int (1 : Int32)), .unset, .unset]) rfl ?_
    show Steps p.tables e below (T7.setTop (mkF m 32 #[.val (.ref a1), .val (.int p2), .val (.int p3), .val (.int p4), .val (.int (1 : Int32)), .unset, .unset] [])) _
    refine XS.iload X7.here hx rfl (hb hby d3_32) rfl ?_
    show Steps p.tables e below (T7.setTop (mkF m 34 #[.val (.ref a1), .val (.int p2), .val (.int p3), .val (.int p4), .val (.int (1 : Int32)), .unset, .unset] [(.int (1 : Int32))])) _
    refine XS.bipush X7.here hx rfl (hb hby d3_34) ?_
    show Steps p.tables e below (T7.setTop (mkF m 36 #[.val (.ref a1), .val (.int p2), .val (.int p3), .val (.int p4), .val (.int (1 : Int32)), .unset, .unset] [(.int (15 : Int32)), (.int (1 : Int32))])) _
    refine XS.iushr X7.here hx rfl (hb hby d3_36) rfl ?_
    show Steps p.tables e below (T7.setTop (mkF m 37 #[.val (.ref a1), .val (.int p2), .val (.int p3), .val (.int p4), .val (.int (1 : Int32)), .unset, .unset] [(.int (((1 : Int32).toUInt32 >>> ((15 : Int32) &&& 31).toUInt32).toInt32))])) _
    rw [show (((1 : Int32).toUInt32 >>> ((15 : Int32) &&& 31).toUInt32).toInt32) = (0 : Int32) from by decide]
    show Steps p.tables e below (T7.setTop (mkF m 37 #[.val (.ref a1), .val (.int p2), .val (.int p3), .val (.int p4), .val (.int (1 : Int32)), .unset, .unset] [(.int (0 : Int32))])) _
    refine XS.istore X7.here hx rfl (hb hby d3_37) rfl (l' := #[.val (.ref a1), .val (.int p2), .val (.int p3), .val (.int p4), .val (.int (1 : Int32)), .val (.int (0 : Int32)), .unset]) rfl ?_
    show Steps p.tables e below (T7.setTop (mkF m 39 #[.val (.ref a1), .val (.int p2), .val (.int p3), .val (.int p4), .val (.int (1 : Int32)), .val (.int (0 : Int32)), .unset] [])) _
    refine XS.iconst X7.here hx rfl (hb hby d3_39) ?_
    show Steps p.tables e below (T7.setTop (mkF m 40 #[.val (.ref a1), .val (.int p2), .val (.int p3), .val (.int p4), .val (.int (1 : Int32)), .val (.int (0 : Int32)), .unset] [(.int (3 : Int32))])) _
    refine XS.iload X7.here hx rfl (hb hby d3_40) rfl ?_
    show Steps p.tables e below (T7.setTop (mkF m 42 #[.val (.ref a1), .val (.int p2), .val (.int p3), .val (.int p4), .val (.int (1 : Int32)), .val (.int (0 : Int32)), .unset] [(.int (1 : Int32)), (.int (3 : Int32))])) _
    refine XS.sipush X7.here hx rfl (hb hby d3_42) ?_
    show Steps p.tables e below (T7.setTop (mkF m 45 #[.val (.ref a1), .val (.int p2), .val (.int p3), .val (.int p4), .val (.int (1 : Int32)), .val (.int (0 : Int32)), .unset] [(.int (32767 : Int32)), (.int (1 : Int32)), (.int (3 : Int32))])) _
    refine XS.iand X7.here hx rfl (hb hby d3_45) rfl ?_
    show Steps p.tables e below (T7.setTop (mkF m 46 #[.val (.ref a1), .val (.int p2), .val (.int p3), .val (.int p4), .val (.int (1 : Int32)), .val (.int (0 : Int32)), .unset] [(.int ((1 : Int32) &&& (32767 : Int32))), (.int (3 : Int32))])) _
    rw [show ((1 : Int32) &&& (32767 : Int32)) = (1 : Int32) from by decide]
    show Steps p.tables e below (T7.setTop (mkF m 46 #[.val (.ref a1), .val (.int p2), .val (.int p3), .val (.int p4), .val (.int (1 : Int32)), .val (.int (0 : Int32)), .unset] [(.int (1 : Int32)), (.int (3 : Int32))])) _
    refine XS.imul X7.here hx rfl (hb hby d3_46) rfl ?_
    show Steps p.tables e below (T7.setTop (mkF m 47 #[.val (.ref a1), .val (.int p2), .val (.int p3), .val (.int p4), .val (.int (1 : Int32)), .val (.int (0 : Int32)), .unset] [(.int ((3 : Int32) * (1 : Int32)))])) _
    rw [show ((3 : Int32) * (1 : Int32)) = (3 : Int32) from by decide]
    show Steps p.tables e below (T7.setTop (mkF m 47 #[.val (.ref a1), .val (.int p2), .val (.int p3), .val (.int p4), .val (.int (1 : Int32)), .val (.int (0 : Int32)), .unset] [(.int (3 : Int32))])) _
    refine XS.istore X7.here hx rfl (hb hby d3_47) rfl (l' := #[.val (.ref a1), .val (.int p2), .val (.int p3), .val (.int p4), .val (.int (1 : Int32)), .val (.int (0 : Int32)), .val (.int (3 : Int32))]) rfl ?_
    show Steps p.tables e below (T7.setTop (mkF m 49 #[.val (.ref a1), .val (.int p2), .val (.int p3), .val (.int p4), .val (.int (1 : Int32)), .val (.int (0 : Int32)), .val (.int (3 : Int32))] [])) _
    refine XS.iload X7.here hx rfl (hb hby d3_49) rfl ?_
    show Steps p.tables e below (T7.setTop (mkF m 51 #[.val (.ref a1), .val (.int p2), .val (.int p3), .val (.int p4), .val (.int (1 : Int32)), .val (.int (0 : Int32)), .val (.int (3 : Int32))] [(.int (0 : Int32))])) _
    refine XS.aloadN X7.here hx rfl (hb hby d3_51) rfl rfl ?_
    show Steps p.tables e below (T7.setTop (mkF m 52 #[.val (.ref a1), .val (.int p2), .val (.int p3), .val (.int p4), .val (.int (1 : Int32)), .val (.int (0 : Int32)), .val (.int (3 : Int32))] [(.ref a1), (.int (0 : Int32))])) _
    refine st10 _ ?_
    show Steps p.tables e below (T10.setTop (mkF m 55 #[.val (.ref a1), .val (.int p2), .val (.int p3), .val (.int p4), .val (.int (1 : Int32)), .val (.int (0 : Int32)), .val (.int (3 : Int32))] [(.ref a8), (.int (0 : Int32))])) _
    refine X10.arraylength hx (by rw [e10]; exact Ar14.1) (State.isArrayOf_alike hZ.alike Ar14.2.1) (g := (mkF m 55 #[.val (.ref a1), .val (.int p2), .val (.int p3), .val (.int p4), .val (.int (1 : Int32)), .val (.int (0 : Int32)), .val (.int (3 : Int32))] [(.ref a8), (.int (0 : Int32))])) rfl rfl (hb hby d3_55) _ ?_
    rw [len_of S14 M14]
    show Steps p.tables e below (T10.setTop (mkF m 56 #[.val (.ref a1), .val (.int p2), .val (.int p3), .val (.int p4), .val (.int (1 : Int32)), .val (.int (0 : Int32)), .val (.int (3 : Int32))] [(.int (1 : Int32)), (.int (0 : Int32))])) _
    refine XS.icmpYes X10.here hx rfl (pc0 := 56) (pc' := 77) rfl (hb hby d3_56) rfl (feq ((by decide) : ¬ ((0 : Int32) = (1 : Int32)))).2 (by decide) (by decide) ?_
    show Steps p.tables e below (T10.setTop (mkF m 77 #[.val (.ref a1), .val (.int p2), .val (.int p3), .val (.int p4), .val (.int (1 : Int32)), .val (.int (0 : Int32)), .val (.int (3 : Int32))] [])) _
    refine XS.aloadN X10.here hx rfl (hb hby d3_77) rfl rfl ?_
    show Steps p.tables e below (T10.setTop (mkF m 78 #[.val (.ref a1), .val (.int p2), .val (.int p3), .val (.int p4), .val (.int (1 : Int32)), .val (.int (0 : Int32)), .val (.int (3 : Int32))] [(.ref a1)])) _
    refine st15 _ ?_
    show Steps p.tables e below (T15.setTop (mkF m 81 #[.val (.ref a1), .val (.int p2), .val (.int p3), .val (.int p4), .val (.int (1 : Int32)), .val (.int (0 : Int32)), .val (.int (3 : Int32))] [(.ref a8)])) _
    refine XS.iload X15.here hx rfl (hb hby d3_81) rfl ?_
    show Steps p.tables e below (T15.setTop (mkF m 83 #[.val (.ref a1), .val (.int p2), .val (.int p3), .val (.int p4), .val (.int (1 : Int32)), .val (.int (0 : Int32)), .val (.int (3 : Int32))] [(.int (0 : Int32)), (.ref a8)])) _
    refine X15.aaload hx (j := (0 : Int32)) (v := (.ref a12)) (by rw [e15]; exact Ar16.1) (State.isArrayOf_alike hZ.alike Ar16.2.1) rfl Ar16.2.2 hin16 hat16 (g := (mkF m 83 #[.val (.ref a1), .val (.int p2), .val (.int p3), .val (.int p4), .val (.int (1 : Int32)), .val (.int (0 : Int32)), .val (.int (3 : Int32))] [(.int (0 : Int32)), (.ref a8)])) rfl rfl (hb hby d3_83) _ ?_
    show Steps p.tables e below (T15.setTop (mkF m 84 #[.val (.ref a1), .val (.int p2), .val (.int p3), .val (.int p4), .val (.int (1 : Int32)), .val (.int (0 : Int32)), .val (.int (3 : Int32))] [(.ref a12)])) _
    refine XS.ifnonnullYes X15.here hx rfl (pc0 := 84) (pc' := 101) rfl (hb hby d3_84) rfl (by decide) (by decide) ?_
    show Steps p.tables e below (T15.setTop (mkF m 101 #[.val (.ref a1), .val (.int p2), .val (.int p3), .val (.int p4), .val (.int (1 : Int32)), .val (.int (0 : Int32)), .val (.int (3 : Int32))] [])) _
    refine XS.iload X15.here hx rfl (hb hby d3_101) rfl ?_
    show Steps p.tables e below (T15.setTop (mkF m 103 #[.val (.ref a1), .val (.int p2), .val (.int p3), .val (.int p4), .val (.int (1 : Int32)), .val (.int (0 : Int32)), .val (.int (3 : Int32))] [(.int (3 : Int32))])) _
    refine XS.aloadN X15.here hx rfl (hb hby d3_103) rfl rfl ?_
    show Steps p.tables e below (T15.setTop (mkF m 104 #[.val (.ref a1), .val (.int p2), .val (.int p3), .val (.int p4), .val (.int (1 : Int32)), .val (.int (0 : Int32)), .val (.int (3 : Int32))] [(.ref a1), (.int (3 : Int32))])) _
    refine st17 _ ?_
    show Steps p.tables e below (T17.setTop (mkF m 107 #[.val (.ref a1), .val (.int p2), .val (.int p3), .val (.int p4), .val (.int (1 : Int32)), .val (.int (0 : Int32)), .val (.int (3 : Int32))] [(.ref a8), (.int (3 : Int32))])) _
    refine XS.iload X17.here hx rfl (hb hby d3_107) rfl ?_
    show Steps p.tables e below (T17.setTop (mkF m 109 #[.val (.ref a1), .val (.int p2), .val (.int p3), .val (.int p4), .val (.int (1 : Int32)), .val (.int (0 : Int32)), .val (.int (3 : Int32))] [(.int (0 : Int32)), (.ref a8), (.int (3 : Int32))])) _
    refine X17.aaload hx (j := (0 : Int32)) (v := (.ref a12)) (by rw [e17]; exact Ar18.1) (State.isArrayOf_alike hZ.alike Ar18.2.1) rfl Ar18.2.2 hin18 hat18 (g := (mkF m 109 #[.val (.ref a1), .val (.int p2), .val (.int p3), .val (.int p4), .val (.int (1 : Int32)), .val (.int (0 : Int32)), .val (.int (3 : Int32))] [(.int (0 : Int32)), (.ref a8), (.int (3 : Int32))])) rfl rfl (hb hby d3_109) _ ?_
    show Steps p.tables e below (T17.setTop (mkF m 110 #[.val (.ref a1), .val (.int p2), .val (.int p3), .val (.int p4), .val (.int (1 : Int32)), .val (.int (0 : Int32)), .val (.int (3 : Int32))] [(.ref a12), (.int (3 : Int32))])) _
    refine X17.arraylength hx (by rw [e17]; exact Ar24.1) (State.isArrayOf_alike hZ.alike Ar24.2.1) (g := (mkF m 110 #[.val (.ref a1), .val (.int p2), .val (.int p3), .val (.int p4), .val (.int (1 : Int32)), .val (.int (0 : Int32)), .val (.int (3 : Int32))] [(.ref a12), (.int (3 : Int32))])) rfl rfl (hb hby d3_110) _ ?_
    rw [len_of S24 M24]
    show Steps p.tables e below (T17.setTop (mkF m 111 #[.val (.ref a1), .val (.int p2), .val (.int p3), .val (.int p4), .val (.int (1 : Int32)), .val (.int (0 : Int32)), .val (.int (3 : Int32))] [(.int (3072 : Int32)), (.int (3 : Int32))])) _
    refine XS.icmpYes X17.here hx rfl (pc0 := 111) (pc' := 135) rfl (hb hby d3_111) rfl (feq ((by decide) : ¬ ((3 : Int32) = (3072 : Int32)))).2 (by decide) (by decide) ?_
    show Steps p.tables e below (T17.setTop (mkF m 135 #[.val (.ref a1), .val (.int p2), .val (.int p3), .val (.int p4), .val (.int (1 : Int32)), .val (.int (0 : Int32)), .val (.int (3 : Int32))] [])) _
    refine XS.aloadN X17.here hx rfl (hb hby d3_135) rfl rfl ?_
    show Steps p.tables e below (T17.setTop (mkF m 136 #[.val (.ref a1), .val (.int p2), .val (.int p3), .val (.int p4), .val (.int (1 : Int32)), .val (.int (0 : Int32)), .val (.int (3 : Int32))] [(.ref a1)])) _
    refine st25 _ ?_
    show Steps p.tables e below (T25.setTop (mkF m 139 #[.val (.ref a1), .val (.int p2), .val (.int p3), .val (.int p4), .val (.int (1 : Int32)), .val (.int (0 : Int32)), .val (.int (3 : Int32))] [(.ref a8)])) _
    refine XS.iload X25.here hx rfl (hb hby d3_139) rfl ?_
    show Steps p.tables e below (T25.setTop (mkF m 141 #[.val (.ref a1), .val (.int p2), .val (.int p3), .val (.int p4), .val (.int (1 : Int32)), .val (.int (0 : Int32)), .val (.int (3 : Int32))] [(.int (0 : Int32)), (.ref a8)])) _
    refine X25.aaload hx (j := (0 : Int32)) (v := (.ref a12)) (by rw [e25]; exact Ar26.1) (State.isArrayOf_alike hZ.alike Ar26.2.1) rfl Ar26.2.2 hin26 hat26 (g := (mkF m 141 #[.val (.ref a1), .val (.int p2), .val (.int p3), .val (.int p4), .val (.int (1 : Int32)), .val (.int (0 : Int32)), .val (.int (3 : Int32))] [(.int (0 : Int32)), (.ref a8)])) rfl rfl (hb hby d3_141) _ ?_
    show Steps p.tables e below (T25.setTop (mkF m 142 #[.val (.ref a1), .val (.int p2), .val (.int p3), .val (.int p4), .val (.int (1 : Int32)), .val (.int (0 : Int32)), .val (.int (3 : Int32))] [(.ref a12)])) _
    refine XS.iload X25.here hx rfl (hb hby d3_142) rfl ?_
    show Steps p.tables e below (T25.setTop (mkF m 144 #[.val (.ref a1), .val (.int p2), .val (.int p3), .val (.int p4), .val (.int (1 : Int32)), .val (.int (0 : Int32)), .val (.int (3 : Int32))] [(.int (3 : Int32)), (.ref a12)])) _
    refine XS.iloadN X25.here hx rfl (hb hby d3_144) rfl ?_
    show Steps p.tables e below (T25.setTop (mkF m 145 #[.val (.ref a1), .val (.int p2), .val (.int p3), .val (.int p4), .val (.int (1 : Int32)), .val (.int (0 : Int32)), .val (.int (3 : Int32))] [(.int p2), (.int (3 : Int32)), (.ref a12)])) _
    refine st29 _ ?_
    show Steps p.tables e below (T29.setTop (mkF m 146 #[.val (.ref a1), .val (.int p2), .val (.int p3), .val (.int p4), .val (.int (1 : Int32)), .val (.int (0 : Int32)), .val (.int (3 : Int32))] [])) _
    refine XS.aloadN X29.here hx rfl (hb hby d3_146) rfl rfl ?_
    show Steps p.tables e below (T29.setTop (mkF m 147 #[.val (.ref a1), .val (.int p2), .val (.int p3), .val (.int p4), .val (.int (1 : Int32)), .val (.int (0 : Int32)), .val (.int (3 : Int32))] [(.ref a1)])) _
    refine st32 _ ?_
    show Steps p.tables e below (T32.setTop (mkF m 150 #[.val (.ref a1), .val (.int p2), .val (.int p3), .val (.int p4), .val (.int (1 : Int32)), .val (.int (0 : Int32)), .val (.int (3 : Int32))] [(.ref a8)])) _
    refine XS.iload X32.here hx rfl (hb hby d3_150) rfl ?_
    show Steps p.tables e below (T32.setTop (mkF m 152 #[.val (.ref a1), .val (.int p2), .val (.int p3), .val (.int p4), .val (.int (1 : Int32)), .val (.int (0 : Int32)), .val (.int (3 : Int32))] [(.int (0 : Int32)), (.ref a8)])) _
    refine X32.aaload hx (j := (0 : Int32)) (v := (.ref a12)) (by rw [e32]; exact Ar34.1) (State.isArrayOf_alike hZ.alike Ar34.2.1) rfl Ar34.2.2 hin34 hat34 (g := (mkF m 152 #[.val (.ref a1), .val (.int p2), .val (.int p3), .val (.int p4), .val (.int (1 : Int32)), .val (.int (0 : Int32)), .val (.int (3 : Int32))] [(.int (0 : Int32)), (.ref a8)])) rfl rfl (hb hby d3_152) _ ?_
    show Steps p.tables e below (T32.setTop (mkF m 153 #[.val (.ref a1), .val (.int p2), .val (.int p3), .val (.int p4), .val (.int (1 : Int32)), .val (.int (0 : Int32)), .val (.int (3 : Int32))] [(.ref a12)])) _
    refine XS.iload X32.here hx rfl (hb hby d3_153) rfl ?_
    show Steps p.tables e below (T32.setTop (mkF m 155 #[.val (.ref a1), .val (.int p2), .val (.int p3), .val (.int p4), .val (.int (1 : Int32)), .val (.int (0 : Int32)), .val (.int (3 : Int32))] [(.int (3 : Int32)), (.ref a12)])) _
    refine XS.iconst X32.here hx rfl (hb hby d3_155) ?_
    show Steps p.tables e below (T32.setTop (mkF m 156 #[.val (.ref a1), .val (.int p2), .val (.int p3), .val (.int p4), .val (.int (1 : Int32)), .val (.int (0 : Int32)), .val (.int (3 : Int32))] [(.int (1 : Int32)), (.int (3 : Int32)), (.ref a12)])) _
    refine XS.iadd X32.here hx rfl (hb hby d3_156) rfl ?_
    show Steps p.tables e below (T32.setTop (mkF m 157 #[.val (.ref a1), .val (.int p2), .val (.int p3), .val (.int p4), .val (.int (1 : Int32)), .val (.int (0 : Int32)), .val (.int (3 : Int32))] [(.int ((3 : Int32) + (1 : Int32))), (.ref a12)])) _
    rw [show ((3 : Int32) + (1 : Int32)) = (4 : Int32) from by decide]
    show Steps p.tables e below (T32.setTop (mkF m 157 #[.val (.ref a1), .val (.int p2), .val (.int p3), .val (.int p4), .val (.int (1 : Int32)), .val (.int (0 : Int32)), .val (.int (3 : Int32))] [(.int (4 : Int32)), (.ref a12)])) _
    refine XS.iloadN X32.here hx rfl (hb hby d3_157) rfl ?_
    show Steps p.tables e below (T32.setTop (mkF m 158 #[.val (.ref a1), .val (.int p2), .val (.int p3), .val (.int p4), .val (.int (1 : Int32)), .val (.int (0 : Int32)), .val (.int (3 : Int32))] [(.int p3), (.int (4 : Int32)), (.ref a12)])) _
    refine st37 _ ?_
    show Steps p.tables e below (T37.setTop (mkF m 159 #[.val (.ref a1), .val (.int p2), .val (.int p3), .val (.int p4), .val (.int (1 : Int32)), .val (.int (0 : Int32)), .val (.int (3 : Int32))] [])) _
    refine XS.aloadN X37.here hx rfl (hb hby d3_159) rfl rfl ?_
    show Steps p.tables e below (T37.setTop (mkF m 160 #[.val (.ref a1), .val (.int p2), .val (.int p3), .val (.int p4), .val (.int (1 : Int32)), .val (.int (0 : Int32)), .val (.int (3 : Int32))] [(.ref a1)])) _
    refine st39 _ ?_
    show Steps p.tables e below (T39.setTop (mkF m 163 #[.val (.ref a1), .val (.int p2), .val (.int p3), .val (.int p4), .val (.int (1 : Int32)), .val (.int (0 : Int32)), .val (.int (3 : Int32))] [(.ref a8)])) _
    refine XS.iload X39.here hx rfl (hb hby d3_163) rfl ?_
    show Steps p.tables e below (T39.setTop (mkF m 165 #[.val (.ref a1), .val (.int p2), .val (.int p3), .val (.int p4), .val (.int (1 : Int32)), .val (.int (0 : Int32)), .val (.int (3 : Int32))] [(.int (0 : Int32)), (.ref a8)])) _
    refine X39.aaload hx (j := (0 : Int32)) (v := (.ref a12)) (by rw [e39]; exact Ar41.1) (State.isArrayOf_alike hZ.alike Ar41.2.1) rfl Ar41.2.2 hin41 hat41 (g := (mkF m 165 #[.val (.ref a1), .val (.int p2), .val (.int p3), .val (.int p4), .val (.int (1 : Int32)), .val (.int (0 : Int32)), .val (.int (3 : Int32))] [(.int (0 : Int32)), (.ref a8)])) rfl rfl (hb hby d3_165) _ ?_
    show Steps p.tables e below (T39.setTop (mkF m 166 #[.val (.ref a1), .val (.int p2), .val (.int p3), .val (.int p4), .val (.int (1 : Int32)), .val (.int (0 : Int32)), .val (.int (3 : Int32))] [(.ref a12)])) _
    refine XS.iload X39.here hx rfl (hb hby d3_166) rfl ?_
    show Steps p.tables e below (T39.setTop (mkF m 168 #[.val (.ref a1), .val (.int p2), .val (.int p3), .val (.int p4), .val (.int (1 : Int32)), .val (.int (0 : Int32)), .val (.int (3 : Int32))] [(.int (3 : Int32)), (.ref a12)])) _
    refine XS.iconst X39.here hx rfl (hb hby d3_168) ?_
    show Steps p.tables e below (T39.setTop (mkF m 169 #[.val (.ref a1), .val (.int p2), .val (.int p3), .val (.int p4), .val (.int (1 : Int32)), .val (.int (0 : Int32)), .val (.int (3 : Int32))] [(.int (2 : Int32)), (.int (3 : Int32)), (.ref a12)])) _
    refine XS.iadd X39.here hx rfl (hb hby d3_169) rfl ?_
    show Steps p.tables e below (T39.setTop (mkF m 170 #[.val (.ref a1), .val (.int p2), .val (.int p3), .val (.int p4), .val (.int (1 : Int32)), .val (.int (0 : Int32)), .val (.int (3 : Int32))] [(.int ((3 : Int32) + (2 : Int32))), (.ref a12)])) _
    rw [show ((3 : Int32) + (2 : Int32)) = (5 : Int32) from by decide]
    show Steps p.tables e below (T39.setTop (mkF m 170 #[.val (.ref a1), .val (.int p2), .val (.int p3), .val (.int p4), .val (.int (1 : Int32)), .val (.int (0 : Int32)), .val (.int (3 : Int32))] [(.int (5 : Int32)), (.ref a12)])) _
    refine XS.iloadN X39.here hx rfl (hb hby d3_170) rfl ?_
    show Steps p.tables e below (T39.setTop (mkF m 171 #[.val (.ref a1), .val (.int p2), .val (.int p3), .val (.int p4), .val (.int (1 : Int32)), .val (.int (0 : Int32)), .val (.int (3 : Int32))] [(.int p4), (.int (5 : Int32)), (.ref a12)])) _
    refine st44 _ ?_
    show Steps p.tables e below (T44.setTop (mkF m 172 #[.val (.ref a1), .val (.int p2), .val (.int p3), .val (.int p4), .val (.int (1 : Int32)), .val (.int (0 : Int32)), .val (.int (3 : Int32))] [])) _
    refine XS.aloadN X44.here hx rfl (hb hby d3_172) rfl rfl ?_
    show Steps p.tables e below (T44.setTop (mkF m 173 #[.val (.ref a1), .val (.int p2), .val (.int p3), .val (.int p4), .val (.int (1 : Int32)), .val (.int (0 : Int32)), .val (.int (3 : Int32))] [(.ref a1)])) _
    refine XS.dup X44.here hx rfl (hb hby d3_173) rfl rfl ?_
    show Steps p.tables e below (T44.setTop (mkF m 174 #[.val (.ref a1), .val (.int p2), .val (.int p3), .val (.int p4), .val (.int (1 : Int32)), .val (.int (0 : Int32)), .val (.int (3 : Int32))] [(.ref a1), (.ref a1)])) _
    refine st46 _ ?_
    show Steps p.tables e below (T46.setTop (mkF m 177 #[.val (.ref a1), .val (.int p2), .val (.int p3), .val (.int p4), .val (.int (1 : Int32)), .val (.int (0 : Int32)), .val (.int (3 : Int32))] [(.int (1 : Int32)), (.ref a1)])) _
    refine XS.iconst X46.here hx rfl (hb hby d3_177) ?_
    show Steps p.tables e below (T46.setTop (mkF m 178 #[.val (.ref a1), .val (.int p2), .val (.int p3), .val (.int p4), .val (.int (1 : Int32)), .val (.int (0 : Int32)), .val (.int (3 : Int32))] [(.int (1 : Int32)), (.int (1 : Int32)), (.ref a1)])) _
    refine XS.iadd X46.here hx rfl (hb hby d3_178) rfl ?_
    show Steps p.tables e below (T46.setTop (mkF m 179 #[.val (.ref a1), .val (.int p2), .val (.int p3), .val (.int p4), .val (.int (1 : Int32)), .val (.int (0 : Int32)), .val (.int (3 : Int32))] [(.int ((1 : Int32) + (1 : Int32))), (.ref a1)])) _
    rw [show ((1 : Int32) + (1 : Int32)) = (2 : Int32) from by decide]
    show Steps p.tables e below (T46.setTop (mkF m 179 #[.val (.ref a1), .val (.int p2), .val (.int p3), .val (.int p4), .val (.int (1 : Int32)), .val (.int (0 : Int32)), .val (.int (3 : Int32))] [(.int (2 : Int32)), (.ref a1)])) _
    refine st49 _ ?_
    show Steps p.tables e below (T49.setTop (mkF m 182 #[.val (.ref a1), .val (.int p2), .val (.int p3), .val (.int p4), .val (.int (1 : Int32)), .val (.int (0 : Int32)), .val (.int (3 : Int32))] [])) _
    refine XS.iload X49.here hx rfl (hb hby d3_182) rfl ?_
    show Steps p.tables e below (T49.setTop (mkF m 184 #[.val (.ref a1), .val (.int p2), .val (.int p3), .val (.int p4), .val (.int (1 : Int32)), .val (.int (0 : Int32)), .val (.int (3 : Int32))] [(.int (1 : Int32))])) _
    exact retI X49 hx Bd.returns (hb hby d3_184) hr
  · show Qrm3_1 Z a1 p2 p3 p4 a8 k11 a12 k19 p20 p21 p22 h0 n0 _ T49.heap _
    rw [e49]
    exact ⟨rfl, N49, K49, f50, f51, Fw49, f52, f53⟩
def Qrm3_2 (Z : State) (a1 : Addr) (p2 : Int32) (p3 : Int32) (p4 : Int32) (a8 : Addr) (k11 : ClassId) (a12 : Addr) (k19 : ClassId) (p20 : Int32) (p21 : Int32) (p22 : Int32) (p23 : Int32) (p24 : Int32) (p25 : Int32) (h0 : Heap) (n0 : Nat) (v : Option Value) (h : Heap) (L : List Loc) : Prop := v = some (.int (2 : Int32)) ∧ Fr n0 L ∧ Keep h0 h [a12, a1] ∧ Arv Z h a12 k19 .int (3072 : Int32) [(.int p20), (.int p21), (.int p22), (.int p23), (.int p24), (.int p25), (.int p2), (.int p3), (.int p4)] (.int (0 : Int32)) ∧ Exa Z h a12 "[I" ∧ Fld Z h a1 "com/example/rokin/rokin/store/TripleColumns" "size" "I" (.int (3 : Int32)) ∧ Fld Z h a1 "com/example/rokin/rokin/store/TripleColumns" "pages" "[[I" (.ref a8) ∧ Exa Z h a1 "com/example/rokin/rokin/store/TripleColumns"
set_option maxRecDepth 65536 in
set_option maxHeartbeats 40000000 in
theorem rm3_2 (l : Launch) (Z : State) (a0 : Array Value) (hw : ∀ d ∈ tables_1, d.before a0 Z = true) (ws : List Jvm.Cond) (a1 : Addr) (p2 : Int32) (p3 : Int32) (p4 : Int32) (a8 : Addr) (k11 : ClassId) (a12 : Addr) (k19 : ClassId) (p20 : Int32) (p21 : Int32) (p22 : Int32) (p23 : Int32) (p24 : Int32) (p25 : Int32) (h0 : Heap) (n0 : Nat) (O0 : Old Z n0 h0) (F_5 : Fld Z h0 a1 "com/example/rokin/rokin/store/TripleColumns" "size" "I" (.int (2 : Int32))) (F_9 : Fld Z h0 a1 "com/example/rokin/rokin/store/TripleColumns" "pages" "[[I" (.ref a8)) (V_13 : Arv Z h0 a8 k11 (.array .int) (1 : Int32) [(.ref a12)] .null) (V_26 : Arv Z h0 a12 k19 .int (3072 : Int32) [(.int p20), (.int p21), (.int p22), (.int p23), (.int p24), (.int p25)] (.int (0 : Int32))) (g_a12 : n0 ≤ a12) (E_33 : Exa Z h0 a12 "[I") (ne_a1_a12 : a1 ≠ a12) (ne_a8_a12 : a8 ≠ a12) (E_50 : Exa Z h0 a1 "com/example/rokin/rokin/store/TripleColumns") (g_a1 : n0 ≤ a1) :
    MetFree l (⟨"com/example/rokin/rokin/store/TripleColumns", "add", "(III)I"⟩ : MethodName) (head1 (Jvm.Cond.code (⟨"com/example/rokin/rokin/store/TripleColumns", "add", "(III)I"⟩ : MethodName) prog_108_method_6_code 7 (some .int) :: ws) ({ frames := 0, cells := 0, slots := 0, locals := 0 } : Room)) (fun a U => a = #[(.ref a1), (.int p2), (.int p3), (.int p4)] ∧ Z.Warmed39 U.vm ∧ U.heap = h0) (fun _ _ _ _ _ => True) (fun _ U o U' => ∃ v L, o = .returned v ∧ Qrm3_2 Z a1 p2 p3 p4 a8 k11 a12 k19 p20 p21 p22 p23 p24 p25 h0 n0 v U'.heap L ∧ FrameEnd U o U' L ({ frames := 0, cells := 0, slots := 0, locals := 0 } : Room).cells ({ frames := 0, cells := 0, slots := 0, locals := 0 } : Room).slots) := by
  refine MetFree.of_bodySF (plainFor_of_name pn_0) hisR ?_
  intro p e s m args below meth c s₁ Bd hml0 hP hK
  obtain ⟨rfl, hZ, hh⟩ := hP
  have hx := Bd.exec
  have hby := Bd.bytes
  have hml : c.maxLocals = 7 := hml0
  have hown : s.vm.findClass "com/example/rokin/rokin/store/TripleColumns" = some m.cls := findClass_of_methodNamed Bd.named
  have hnm := (name_of_methodNamed Bd.named Bd.method).1
  have X0 : Stand p l e ({ frames := 0, cells := 0, slots := 0, locals := 0 } : Room) s m #[(.ref a1), (.int p2), (.int p3), (.int p4)] below meth c s₁ [] 0 0 := Stand.of_body Bd
  have e0 : s₁.heap = h0 := by rw [← hh, Bd.state]; rfl
  have N0 := Fr.nil n0
  have pre0 : ∀ t, Steps p.tables e below (s₁.setTop (mkF m 0 #[.val (.ref a1), .val (.int p2), .val (.int p3), .val (.int p4), .unset, .unset, .unset] [])) t → Steps p.tables e below (s₁.setTop (entryFrame m #[(.ref a1), (.int p2), (.int p3), (.int p4)] 7)) t := fun t k => castTop (ef_3_RIII m a1 p2 p3 p4) k
  obtain ⟨T6, X6, e6, st6⟩ := getF X0 hx hZ hown (host := "") (Or.inl (hw _ (List.mem_of_getElem? (i := 20) rfl))) Via.refl e0 F_5 (g := (mkF m 1 #[.val (.ref a1), .val (.int p2), .val (.int p3), .val (.int p4), .unset, .unset, .unset] [(.ref a1)])) rfl rfl (hb hby d3_1)
  obtain ⟨T7, X7, e7, st7⟩ := getF X6 hx hZ hown (host := "") (Or.inl (hw _ (List.mem_of_getElem? (i := 20) rfl))) Via.refl e6 F_5 (g := (mkF m 27 #[.val (.ref a1), .val (.int p2), .val (.int p3), .val (.int p4), .unset, .unset, .unset] [(.ref a1)])) rfl rfl (hb hby d3_27)
  obtain ⟨T10, X10, e10, st10⟩ := getF X7 hx hZ hown (host := "") (Or.inl (hw _ (List.mem_of_getElem? (i := 13) rfl))) Via.refl e7 F_9 (g := (mkF m 52 #[.val (.ref a1), .val (.int p2), .val (.int p3), .val (.int p4), .val (.int (2 : Int32)), .val (.int (0 : Int32)), .val (.int (6 : Int32))] [(.ref a1), (.int (0 : Int32))])) rfl rfl (hb hby d3_52)
  obtain ⟨cl14, Ar14, q14, S14, M14, Hs14, G14⟩ := id V_13
  obtain ⟨T15, X15, e15, st15⟩ := getF X10 hx hZ hown (host := "") (Or.inl (hw _ (List.mem_of_getElem? (i := 13) rfl))) Via.refl e10 F_9 (g := (mkF m 78 #[.val (.ref a1), .val (.int p2), .val (.int p3), .val (.int p4), .val (.int (2 : Int32)), .val (.int (0 : Int32)), .val (.int (6 : Int32))] [(.ref a1)])) rfl rfl (hb hby d3_78)
  obtain ⟨cl16, Ar16, q16, S16, M16, Hs16, G16⟩ := id V_13
  have hin16 : ¬ ((0 : Int32) < 0 ∨ cl16.slots.size ≤ ((0 : Int32)).toNatClampNeg) := inb_of S16 ⟨by decide, by decide⟩
  have hat16 : cl16.slots[((0 : Int32)).toNatClampNeg]? = some (.ref a12) := Has.at Hs16 hin16 rfl
  obtain ⟨T17, X17, e17, st17⟩ := getF X15 hx hZ hown (host := "") (Or.inl (hw _ (List.mem_of_getElem? (i := 13) rfl))) Via.refl e15 F_9 (g := (mkF m 104 #[.val (.ref a1), .val (.int p2), .val (.int p3), .val (.int p4), .val (.int (2 : Int32)), .val (.int (0 : Int32)), .val (.int (6 : Int32))] [(.ref a1), (.int (6 : Int32))])) rfl rfl (hb hby d3_104)
  obtain ⟨cl18, Ar18, q18, S18, M18, Hs18, G18⟩ := id V_13
  have hin18 : ¬ ((0 : Int32) < 0 ∨ cl18.slots.size ≤ ((0 : Int32)).toNatClampNeg) := inb_of S18 ⟨by decide, by decide⟩
  have hat18 : cl18.slots[((0 : Int32)).toNatClampNeg]? = some (.ref a12) := Has.at Hs18 hin18 rfl
  obtain ⟨cl27, Ar27, q27, S27, M27, Hs27, G27⟩ := id V_26
  obtain ⟨T28, X28, e28, st28⟩ := getF X17 hx hZ hown (host := "") (Or.inl (hw _ (List.mem_of_getElem? (i := 13) rfl))) Via.refl e17 F_9 (g := (mkF m 136 #[.val (.ref a1), .val (.int p2), .val (.int p3), .val (.int p4), .val (.int (2 : Int32)), .val (.int (0 : Int32)), .val (.int (6 : Int32))] [(.ref a1)])) rfl rfl (hb hby d3_136)
  obtain ⟨cl29, Ar29, q29, S29, M29, Hs29, G29⟩ := id V_13
  have hin29 : ¬ ((0 : Int32) < 0 ∨ cl29.slots.size ≤ ((0 : Int32)).toNatClampNeg) := inb_of S29 ⟨by decide, by decide⟩
  have hat29 : cl29.slots[((0 : Int32)).toNatClampNeg]? = some (.ref a12) := Has.at Hs29 hin29 rfl
  have V30 : Arv Z h0 a12 k19 .int (3072 : Int32) [(.int p20), (.int p21), (.int p22), (.int p23), (.int p24), (.int p25), (.int (0 : Int32))] (.int (0 : Int32)) := V_26.pad (pad_rep [(.int p20), (.int p21), (.int p22), (.int p23), (.int p24), (.int p25)] (.int (0 : Int32)) 1)
  obtain ⟨cl31, Ar31, q31, S31, M31, Hs31, G31⟩ := id V30
  have hin31 : ¬ ((6 : Int32) < 0 ∨ cl31.slots.size ≤ ((6 : Int32)).toNatClampNeg) := inb_of S31 ⟨by decide, by decide⟩
  obtain ⟨T32, h32, X32, e32, W32, st32⟩ := stI X28 hx hZ e28 Ar31 (j := (6 : Int32)) hin31 (g := (mkF m 145 #[.val (.ref a1), .val (.int p2), .val (.int p3), .val (.int p4), .val (.int (2 : Int32)), .val (.int (0 : Int32)), .val (.int (6 : Int32))] [(.int p2), (.int (6 : Int32)), (.ref a12)])) rfl rfl (hb hby d3_145)
  have K32 : Keep h0 h32 [a12, a1] := (Keep.refl h0 [a12, a1]).wr W32 (Or.inl (List.mem_of_getElem? (i := 0) rfl))
  have O32 : Old Z n0 h32 := O0.wr W32 g_a12
  have N32 := Fr.snoc X32 N0 g_a12
  have Vw32 : Arv Z h32 a12 k19 .int (3072 : Int32) [(.int p20), (.int p21), (.int p22), (.int p23), (.int p24), (.int p25), (.int p2)] (.int (0 : Int32)) := Arv.set Ar31 q31 S31 M31 Hs31 G31 rfl W32 6 rfl (Nat.le_of_ble_eq_true rfl)
  have f34 : Fld Z h32 a1 "com/example/rokin/rokin/store/TripleColumns" "pages" "[[I" (.ref a8) := (F_9.other W32 (Or.inl ne_a1_a12))
  obtain ⟨T35, X35, e35, st35⟩ := getF X32 hx hZ hown (host := "") (Or.inl (hw _ (List.mem_of_getElem? (i := 13) rfl))) Via.refl e32 f34 (g := (mkF m 147 #[.val (.ref a1), .val (.int p2), .val (.int p3), .val (.int p4), .val (.int (2 : Int32)), .val (.int (0 : Int32)), .val (.int (6 : Int32))] [(.ref a1)])) rfl rfl (hb hby d3_147)
  have f36 : Arv Z h32 a8 k11 (.array .int) (1 : Int32) [(.ref a12)] .null := (V_13.other W32 ne_a8_a12)
  obtain ⟨cl37, Ar37, q37, S37, M37, Hs37, G37⟩ := id f36
  have hin37 : ¬ ((0 : Int32) < 0 ∨ cl37.slots.size ≤ ((0 : Int32)).toNatClampNeg) := inb_of S37 ⟨by decide, by decide⟩
  have hat37 : cl37.slots[((0 : Int32)).toNatClampNeg]? = some (.ref a12) := Has.at Hs37 hin37 rfl
  have V38 : Arv Z h32 a12 k19 .int (3072 : Int32) [(.int p20), (.int p21), (.int p22), (.int p23), (.int p24), (.int p25), (.int p2), (.int (0 : Int32))] (.int (0 : Int32)) := Vw32.pad (pad_rep [(.int p20), (.int p21), (.int p22), (.int p23), (.int p24), (.int p25), (.int p2)] (.int (0 : Int32)) 1)
  obtain ⟨cl39, Ar39, q39, S39, M39, Hs39, G39⟩ := id V38
  have hin39 : ¬ ((7 : Int32) < 0 ∨ cl39.slots.size ≤ ((7 : Int32)).toNatClampNeg) := inb_of S39 ⟨by decide, by decide⟩
  obtain ⟨T40, h40, X40, e40, W40, st40⟩ := stI X35 hx hZ e35 Ar39 (j := (7 : Int32)) hin39 (g := (mkF m 158 #[.val (.ref a1), .val (.int p2), .val (.int p3), .val (.int p4), .val (.int (2 : Int32)), .val (.int (0 : Int32)), .val (.int (6 : Int32))] [(.int p3), (.int (7 : Int32)), (.ref a12)])) rfl rfl (hb hby d3_158)
  have K40 : Keep h0 h40 [a12, a1] := K32.wr W40 (Or.inl (List.mem_of_getElem? (i := 0) rfl))
  have O40 : Old Z n0 h40 := O32.wr W40 g_a12
  have N40 := Fr.snoc X40 N32 g_a12
  have Vw40 : Arv Z h40 a12 k19 .int (3072 : Int32) [(.int p20), (.int p21), (.int p22), (.int p23), (.int p24), (.int p25), (.int p2), (.int p3)] (.int (0 : Int32)) := Arv.set Ar39 q39 S39 M39 Hs39 G39 rfl W40 7 rfl (Nat.le_of_ble_eq_true rfl)
  have f41 : Fld Z h40 a1 "com/example/rokin/rokin/store/TripleColumns" "pages" "[[I" (.ref a8) := (f34.other W40 (Or.inl ne_a1_a12))
  obtain ⟨T42, X42, e42, st42⟩ := getF X40 hx hZ hown (host := "") (Or.inl (hw _ (List.mem_of_getElem? (i := 13) rfl))) Via.refl e40 f41 (g := (mkF m 160 #[.val (.ref a1), .val (.int p2), .val (.int p3), .val (.int p4), .val (.int (2 : Int32)), .val (.int (0 : Int32)), .val (.int (6 : Int32))] [(.ref a1)])) rfl rfl (hb hby d3_160)
  have f43 : Arv Z h40 a8 k11 (.array .int) (1 : Int32) [(.ref a12)] .null := (f36.other W40 ne_a8_a12)
  obtain ⟨cl44, Ar44, q44, S44, M44, Hs44, G44⟩ := id f43
  have hin44 : ¬ ((0 : Int32) < 0 ∨ cl44.slots.size ≤ ((0 : Int32)).toNatClampNeg) := inb_of S44 ⟨by decide, by decide⟩
  have hat44 : cl44.slots[((0 : Int32)).toNatClampNeg]? = some (.ref a12) := Has.at Hs44 hin44 rfl
  have V45 : Arv Z h40 a12 k19 .int (3072 : Int32) [(.int p20), (.int p21), (.int p22), (.int p23), (.int p24), (.int p25), (.int p2), (.int p3), (.int (0 : Int32))] (.int (0 : Int32)) := Vw40.pad (pad_rep [(.int p20), (.int p21), (.int p22), (.int p23), (.int p24), (.int p25), (.int p2), (.int p3)] (.int (0 : Int32)) 1)
  obtain ⟨cl46, Ar46, q46, S46, M46, Hs46, G46⟩ := id V45
  have hin46 : ¬ ((8 : Int32) < 0 ∨ cl46.slots.size ≤ ((8 : Int32)).toNatClampNeg) := inb_of S46 ⟨by decide, by decide⟩
  obtain ⟨T47, h47, X47, e47, W47, st47⟩ := stI X42 hx hZ e42 Ar46 (j := (8 : Int32)) hin46 (g := (mkF m 171 #[.val (.ref a1), .val (.int p2), .val (.int p3), .val (.int p4), .val (.int (2 : Int32)), .val (.int (0 : Int32)), .val (.int (6 : Int32))] [(.int p4), (.int (8 : Int32)), (.ref a12)])) rfl rfl (hb hby d3_171)
  have K47 : Keep h0 h47 [a12, a1] := K40.wr W47 (Or.inl (List.mem_of_getElem? (i := 0) rfl))
  have O47 : Old Z n0 h47 := O40.wr W47 g_a12
  have N47 := Fr.snoc X47 N40 g_a12
  have Vw47 : Arv Z h47 a12 k19 .int (3072 : Int32) [(.int p20), (.int p21), (.int p22), (.int p23), (.int p24), (.int p25), (.int p2), (.int p3), (.int p4)] (.int (0 : Int32)) := Arv.set Ar46 q46 S46 M46 Hs46 G46 rfl W47 8 rfl (Nat.le_of_ble_eq_true rfl)
  have f48 : Fld Z h47 a1 "com/example/rokin/rokin/store/TripleColumns" "size" "I" (.int (2 : Int32)) := (((F_5.other W32 (Or.inl ne_a1_a12)).other W40 (Or.inl ne_a1_a12)).other W47 (Or.inl ne_a1_a12))
  obtain ⟨T49, X49, e49, st49⟩ := getF X47 hx hZ hown (host := "") (Or.inl (hw _ (List.mem_of_getElem? (i := 20) rfl))) Via.refl e47 f48 (g := (mkF m 174 #[.val (.ref a1), .val (.int p2), .val (.int p3), .val (.int p4), .val (.int (2 : Int32)), .val (.int (0 : Int32)), .val (.int (6 : Int32))] [(.ref a1), (.ref a1)])) rfl rfl (hb hby d3_174)
  have f51 : Exa Z h47 a1 "com/example/rokin/rokin/store/TripleColumns" := (((E_50.wr W32).wr W40).wr W47)
  obtain ⟨T52, h52, X52, e52, W52, st52⟩ := putF X49 hx hZ hown (host := "") (Or.inl (hw _ (List.mem_of_getElem? (i := 20) rfl))) Via.refl e49 f48 f51 (Or.inl (hw _ (List.mem_of_getElem? (i := 21) rfl))) (hw _ (List.mem_of_getElem? (i := 1) rfl)) (ty := .int) (by decide) rfl rfl (g := (mkF m 179 #[.val (.ref a1), .val (.int p2), .val (.int p3), .val (.int p4), .val (.int (2 : Int32)), .val (.int (0 : Int32)), .val (.int (6 : Int32))] [(.int (3 : Int32)), (.ref a1)])) rfl rfl (hb hby d3_179)
  have K52 : Keep h0 h52 [a12, a1] := K47.wr W52 (Or.inl (List.mem_of_getElem? (i := 1) rfl))
  have O52 : Old Z n0 h52 := O47.wr W52 g_a1
  have N52 := Fr.snoc X52 N47 g_a1
  have Fw52 : Fld Z h52 a1 "com/example/rokin/rokin/store/TripleColumns" "size" "I" (.int (3 : Int32)) := f48.same W52
  have f53 : Arv Z h52 a12 k19 .int (3072 : Int32) [(.int p20), (.int p21), (.int p22), (.int p23), (.int p24), (.int p25), (.int p2), (.int p3), (.int p4)] (.int (0 : Int32)) := (Vw47.other W52 (Ne.symm ne_a1_a12))
  have f54 : Exa Z h52 a12 "[I" := ((((E_33.wr W32).wr W40).wr W47).wr W52)
  have f55 : Fld Z h52 a1 "com/example/rokin/rokin/store/TripleColumns" "pages" "[[I" (.ref a8) := ((f41.other W47 (Or.inl ne_a1_a12)).other W52 (Or.inr (slot_ne (Or.inl (hw _ (List.mem_of_getElem? (i := 14) rfl))) (Or.inl (hw _ (List.mem_of_getElem? (i := 21) rfl))) (by decide) (t := (.array (.array .int))) (t' := .int) (by decide) (by decide))))
  have f56 : Exa Z h52 a1 "com/example/rokin/rokin/store/TripleColumns" := (f51.wr W52)
  obtain ⟨fs, hr, hrun, hended, hW, hsame⟩ := X52.leave (v := some (.int (2 : Int32))) (fun h => by rw [Bd.returns] at h; cases h)
  refine ⟨_, _, pre0 _ ?_, hrun, hended, _, _, rfl, ?_, ⟨_, rfl⟩, hW, hsame.mono (by decide) (by decide)⟩
  · show Steps p.tables e below (s₁.setTop (mkF m 0 #[.val (.ref a1), .val (.int p2), .val (.int p3), .val (.int p4), .unset, .unset, .unset] [])) _
    refine XS.aloadN X0.here hx rfl (hb hby d3_0) rfl rfl ?_
    show Steps p.tables e below (s₁.setTop (mkF m 1 #[.val (.ref a1), .val (.int p2), .val (.int p3), .val (.int p4), .unset, .unset, .unset] [(.ref a1)])) _
    refine st6 _ ?_
    show Steps p.tables e below (T6.setTop (mkF m 4 #[.val (.ref a1), .val (.int p2), .val (.int p3), .val (.int p4), .unset, .unset, .unset] [(.int (2 : Int32))])) _
    refine X6.ldcInt hx hown (mvT hZ (hw _ (List.mem_of_getElem? (i := 22) rfl))) (g := (mkF m 4 #[.val (.ref a1), .val (.int p2), .val (.int p3), .val (.int p4), .unset, .unset, .unset] [(.int (2 : Int32))])) rfl (hb hby d3_4) _ ?_
    show Steps p.tables e below (T6.setTop (mkF m 6 #[.val (.ref a1), .val (.int p2), .val (.int p3), .val (.int p4), .unset, .unset, .unset] [(.int (2147483647 : Int32)), (.int (2 : Int32))])) _
    refine XS.icmpYes X6.here hx rfl (pc0 := 6) (pc' := 26) rfl (hb hby d3_6) rfl (feq ((by decide) : ¬ ((2 : Int32) = (2147483647 : Int32)))).2 (by decide) (by decide) ?_
    show Steps p.tables e below (T6.setTop (mkF m 26 #[.val (.ref a1), .val (.int p2), .val (.int p3), .val (.int p4), .unset, .unset, .unset] [])) _
    refine XS.aloadN X6.here hx rfl (hb hby d3_26) rfl rfl ?_
    show Steps p.tables e below (T6.setTop (mkF m 27 #[.val (.ref a1), .val (.int p2), .val (.int p3), .val (.int p4), .unset, .unset, .unset] [(.ref a1)])) _
    refine st7 _ ?_
    show Steps p.tables e below (T7.setTop (mkF m 30 #[.val (.ref a1), .val (.int p2), .val (.int p3), .val (.int p4), .unset, .unset, .unset] [(.int (2 : Int32))])) _
    refine XS.istore X7.here hx rfl (hb hby d3_30) rfl (l' := #[.val (.ref a1), .val (.int p2), .val (.int p3), .val (.int p4), .val (.int (2 : Int32)), .unset, .unset]) rfl ?_
    show Steps p.tables e below (T7.setTop (mkF m 32 #[.val (.ref a1), .val (.int p2), .val (.int p3), .val (.int p4), .val (.int (2 : Int32)), .unset, .unset] [])) _
    refine XS.iload X7.here hx rfl (hb hby d3_32) rfl ?_
    show Steps p.tables e below (T7.setTop (mkF m 34 #[.val (.ref a1), .val (.int p2), .val (.int p3), .val (.int p4), .val (.int (2 : Int32)), .unset, .unset] [(.int (2 : Int32))])) _
    refine XS.bipush X7.here hx rfl (hb hby d3_34) ?_
    show Steps p.tables e below (T7.setTop (mkF m 36 #[.val (.ref a1), .val (.int p2), .val (.int p3), .val (.int p4), .val (.int (2 : Int32)), .unset, .unset] [(.int (15 : Int32)), (.int (2 : Int32))])) _
    refine XS.iushr X7.here hx rfl (hb hby d3_36) rfl ?_
    show Steps p.tables e below (T7.setTop (mkF m 37 #[.val (.ref a1), .val (.int p2), .val (.int p3), .val (.int p4), .val (.int (2 : Int32)), .unset, .unset] [(.int (((2 : Int32).toUInt32 >>> ((15 : Int32) &&& 31).toUInt32).toInt32))])) _
    rw [show (((2 : Int32).toUInt32 >>> ((15 : Int32) &&& 31).toUInt32).toInt32) = (0 : Int32) from by decide]
    show Steps p.tables e below (T7.setTop (mkF m 37 #[.val (.ref a1), .val (.int p2), .val (.int p3), .val (.int p4), .val (.int (2 : Int32)), .unset, .unset] [(.int (0 : Int32))])) _
    refine XS.istore X7.here hx rfl (hb hby d3_37) rfl (l' := #[.val (.ref a1), .val (.int p2), .val (.int p3), .val (.int p4), .val (.int (2 : Int32)), .val (.int (0 : Int32)), .unset]) rfl ?_
    show Steps p.tables e below (T7.setTop (mkF m 39 #[.val (.ref a1), .val (.int p2), .val (.int p3), .val (.int p4), .val (.int (2 : Int32)), .val (.int (0 : Int32)), .unset] [])) _
    refine XS.iconst X7.here hx rfl (hb hby d3_39) ?_
    show Steps p.tables e below (T7.setTop (mkF m 40 #[.val (.ref a1), .val (.int p2), .val (.int p3), .val (.int p4), .val (.int (2 : Int32)), .val (.int (0 : Int32)), .unset] [(.int (3 : Int32))])) _
    refine XS.iload X7.here hx rfl (hb hby d3_40) rfl ?_
    show Steps p.tables e below (T7.setTop (mkF m 42 #[.val (.ref a1), .val (.int p2), .val (.int p3), .val (.int p4), .val (.int (2 : Int32)), .val (.int (0 : Int32)), .unset] [(.int (2 : Int32)), (.int (3 : Int32))])) _
    refine XS.sipush X7.here hx rfl (hb hby d3_42) ?_
    show Steps p.tables e below (T7.setTop (mkF m 45 #[.val (.ref a1), .val (.int p2), .val (.int p3), .val (.int p4), .val (.int (2 : Int32)), .val (.int (0 : Int32)), .unset] [(.int (32767 : Int32)), (.int (2 : Int32)), (.int (3 : Int32))])) _
    refine XS.iand X7.here hx rfl (hb hby d3_45) rfl ?_
    show Steps p.tables e below (T7.setTop (mkF m 46 #[.val (.ref a1), .val (.int p2), .val (.int p3), .val (.int p4), .val (.int (2 : Int32)), .val (.int (0 : Int32)), .unset] [(.int ((2 : Int32) &&& (32767 : Int32))), (.int (3 : Int32))])) _
    rw [show ((2 : Int32) &&& (32767 : Int32)) = (2 : Int32) from by decide]
    show Steps p.tables e below (T7.setTop (mkF m 46 #[.val (.ref a1), .val (.int p2), .val (.int p3), .val (.int p4), .val (.int (2 : Int32)), .val (.int (0 : Int32)), .unset] [(.int (2 : Int32)), (.int (3 : Int32))])) _
    refine XS.imul X7.here hx rfl (hb hby d3_46) rfl ?_
    show Steps p.tables e below (T7.setTop (mkF m 47 #[.val (.ref a1), .val (.int p2), .val (.int p3), .val (.int p4), .val (.int (2 : Int32)), .val (.int (0 : Int32)), .unset] [(.int ((3 : Int32) * (2 : Int32)))])) _
    rw [show ((3 : Int32) * (2 : Int32)) = (6 : Int32) from by decide]
    show Steps p.tables e below (T7.setTop (mkF m 47 #[.val (.ref a1), .val (.int p2), .val (.int p3), .val (.int p4), .val (.int (2 : Int32)), .val (.int (0 : Int32)), .unset] [(.int (6 : Int32))])) _
    refine XS.istore X7.here hx rfl (hb hby d3_47) rfl (l' := #[.val (.ref a1), .val (.int p2), .val (.int p3), .val (.int p4), .val (.int (2 : Int32)), .val (.int (0 : Int32)), .val (.int (6 : Int32))]) rfl ?_
    show Steps p.tables e below (T7.setTop (mkF m 49 #[.val (.ref a1), .val (.int p2), .val (.int p3), .val (.int p4), .val (.int (2 : Int32)), .val (.int (0 : Int32)), .val (.int (6 : Int32))] [])) _
    refine XS.iload X7.here hx rfl (hb hby d3_49) rfl ?_
    show Steps p.tables e below (T7.setTop (mkF m 51 #[.val (.ref a1), .val (.int p2), .val (.int p3), .val (.int p4), .val (.int (2 : Int32)), .val (.int (0 : Int32)), .val (.int (6 : Int32))] [(.int (0 : Int32))])) _
    refine XS.aloadN X7.here hx rfl (hb hby d3_51) rfl rfl ?_
    show Steps p.tables e below (T7.setTop (mkF m 52 #[.val (.ref a1), .val (.int p2), .val (.int p3), .val (.int p4), .val (.int (2 : Int32)), .val (.int (0 : Int32)), .val (.int (6 : Int32))] [(.ref a1), (.int (0 : Int32))])) _
    refine st10 _ ?_
    show Steps p.tables e below (T10.setTop (mkF m 55 #[.val (.ref a1), .val (.int p2), .val (.int p3), .val (.int p4), .val (.int (2 : Int32)), .val (.int (0 : Int32)), .val (.int (6 : Int32))] [(.ref a8), (.int (0 : Int32))])) _
    refine X10.arraylength hx (by rw [e10]; exact Ar14.1) (State.isArrayOf_alike hZ.alike Ar14.2.1) (g := (mkF m 55 #[.val (.ref a1), .val (.int p2), .val (.int p3), .val (.int p4), .val (.int (2 : Int32)), .val (.int (0 : Int32)), .val (.int (6 : Int32))] [(.ref a8), (.int (0 : Int32))])) rfl rfl (hb hby d3_55) _ ?_
    rw [len_of S14 M14]
    show Steps p.tables e below (T10.setTop (mkF m 56 #[.val (.ref a1), .val (.int p2), .val (.int p3), .val (.int p4), .val (.int (2 : Int32)), .val (.int (0 : Int32)), .val (.int (6 : Int32))] [(.int (1 : Int32)), (.int (0 : Int32))])) _
    refine XS.icmpYes X10.here hx rfl (pc0 := 56) (pc' := 77) rfl (hb hby d3_56) rfl (feq ((by decide) : ¬ ((0 : Int32) = (1 : Int32)))).2 (by decide) (by decide) ?_
    show Steps p.tables e below (T10.setTop (mkF m 77 #[.val (.ref a1), .val (.int p2), .val (.int p3), .val (.int p4), .val (.int (2 : Int32)), .val (.int (0 : Int32)), .val (.int (6 : Int32))] [])) _
    refine XS.aloadN X10.here hx rfl (hb hby d3_77) rfl rfl ?_
    show Steps p.tables e below (T10.setTop (mkF m 78 #[.val (.ref a1), .val (.int p2), .val (.int p3), .val (.int p4), .val (.int (2 : Int32)), .val (.int (0 : Int32)), .val (.int (6 : Int32))] [(.ref a1)])) _
    refine st15 _ ?_
    show Steps p.tables e below (T15.setTop (mkF m 81 #[.val (.ref a1), .val (.int p2), .val (.int p3), .val (.int p4), .val (.int (2 : Int32)), .val (.int (0 : Int32)), .val (.int (6 : Int32))] [(.ref a8)])) _
    refine XS.iload X15.here hx rfl (hb hby d3_81) rfl ?_
    show Steps p.tables e below (T15.setTop (mkF m 83 #[.val (.ref a1), .val (.int p2), .val (.int p3), .val (.int p4), .val (.int (2 : Int32)), .val (.int (0 : Int32)), .val (.int (6 : Int32))] [(.int (0 : Int32)), (.ref a8)])) _
    refine X15.aaload hx (j := (0 : Int32)) (v := (.ref a12)) (by rw [e15]; exact Ar16.1) (State.isArrayOf_alike hZ.alike Ar16.2.1) rfl Ar16.2.2 hin16 hat16 (g := (mkF m 83 #[.val (.ref a1), .val (.int p2), .val (.int p3), .val (.int p4), .val (.int (2 : Int32)), .val (.int (0 : Int32)), .val (.int (6 : Int32))] [(.int (0 : Int32)), (.ref a8)])) rfl rfl (hb hby d3_83) _ ?_
    show Steps p.tables e below (T15.setTop (mkF m 84 #[.val (.ref a1), .val (.int p2), .val (.int p3), .val (.int p4), .val (.int (2 : Int32)), .val (.int (0 : Int32)), .val (.int (6 : Int32))] [(.ref a12)])) _
    refine XS.ifnonnullYes X15.here hx rfl (pc0 := 84) (pc' := 101) rfl (hb hby d3_84) rfl (by decide) (by decide) ?_
    show Steps p.tables e below (T15.setTop (mkF m 101 #[.val (.ref a1), .val (.int p2), .val (.int p3), .val (.int p4), .val (.int (2 : Int32)), .val (.int (0 : Int32)), .val (.int (6 : Int32))] [])) _
    refine XS.iload X15.here hx rfl (hb hby d3_101) rfl ?_
    show Steps p.tables e below (T15.setTop (mkF m 103 #[.val (.ref a1), .val (.int p2), .val (.int p3), .val (.int p4), .val (.int (2 : Int32)), .val (.int (0 : Int32)), .val (.int (6 : Int32))] [(.int (6 : Int32))])) _
    refine XS.aloadN X15.here hx rfl (hb hby d3_103) rfl rfl ?_
    show Steps p.tables e below (T15.setTop (mkF m 104 #[.val (.ref a1), .val (.int p2), .val (.int p3), .val (.int p4), .val (.int (2 : Int32)), .val (.int (0 : Int32)), .val (.int (6 : Int32))] [(.ref a1), (.int (6 : Int32))])) _
    refine st17 _ ?_
    show Steps p.tables e below (T17.setTop (mkF m 107 #[.val (.ref a1), .val (.int p2), .val (.int p3), .val (.int p4), .val (.int (2 : Int32)), .val (.int (0 : Int32)), .val (.int (6 : Int32))] [(.ref a8), (.int (6 : Int32))])) _
    refine XS.iload X17.here hx rfl (hb hby d3_107) rfl ?_
    show Steps p.tables e below (T17.setTop (mkF m 109 #[.val (.ref a1), .val (.int p2), .val (.int p3), .val (.int p4), .val (.int (2 : Int32)), .val (.int (0 : Int32)), .val (.int (6 : Int32))] [(.int (0 : Int32)), (.ref a8), (.int (6 : Int32))])) _
    refine X17.aaload hx (j := (0 : Int32)) (v := (.ref a12)) (by rw [e17]; exact Ar18.1) (State.isArrayOf_alike hZ.alike Ar18.2.1) rfl Ar18.2.2 hin18 hat18 (g := (mkF m 109 #[.val (.ref a1), .val (.int p2), .val (.int p3), .val (.int p4), .val (.int (2 : Int32)), .val (.int (0 : Int32)), .val (.int (6 : Int32))] [(.int (0 : Int32)), (.ref a8), (.int (6 : Int32))])) rfl rfl (hb hby d3_109) _ ?_
    show Steps p.tables e below (T17.setTop (mkF m 110 #[.val (.ref a1), .val (.int p2), .val (.int p3), .val (.int p4), .val (.int (2 : Int32)), .val (.int (0 : Int32)), .val (.int (6 : Int32))] [(.ref a12), (.int (6 : Int32))])) _
    refine X17.arraylength hx (by rw [e17]; exact Ar27.1) (State.isArrayOf_alike hZ.alike Ar27.2.1) (g := (mkF m 110 #[.val (.ref a1), .val (.int p2), .val (.int p3), .val (.int p4), .val (.int (2 : Int32)), .val (.int (0 : Int32)), .val (.int (6 : Int32))] [(.ref a12), (.int (6 : Int32))])) rfl rfl (hb hby d3_110) _ ?_
    rw [len_of S27 M27]
    show Steps p.tables e below (T17.setTop (mkF m 111 #[.val (.ref a1), .val (.int p2), .val (.int p3), .val (.int p4), .val (.int (2 : Int32)), .val (.int (0 : Int32)), .val (.int (6 : Int32))] [(.int (3072 : Int32)), (.int (6 : Int32))])) _
    refine XS.icmpYes X17.here hx rfl (pc0 := 111) (pc' := 135) rfl (hb hby d3_111) rfl (feq ((by decide) : ¬ ((6 : Int32) = (3072 : Int32)))).2 (by decide) (by decide) ?_
    show Steps p.tables e below (T17.setTop (mkF m 135 #[.val (.ref a1), .val (.int p2), .val (.int p3), .val (.int p4), .val (.int (2 : Int32)), .val (.int (0 : Int32)), .val (.int (6 : Int32))] [])) _
    refine XS.aloadN X17.here hx rfl (hb hby d3_135) rfl rfl ?_
    show Steps p.tables e below (T17.setTop (mkF m 136 #[.val (.ref a1), .val (.int p2), .val (.int p3), .val (.int p4), .val (.int (2 : Int32)), .val (.int (0 : Int32)), .val (.int (6 : Int32))] [(.ref a1)])) _
    refine st28 _ ?_
    show Steps p.tables e below (T28.setTop (mkF m 139 #[.val (.ref a1), .val (.int p2), .val (.int p3), .val (.int p4), .val (.int (2 : Int32)), .val (.int (0 : Int32)), .val (.int (6 : Int32))] [(.ref a8)])) _
    refine XS.iload X28.here hx rfl (hb hby d3_139) rfl ?_
    show Steps p.tables e below (T28.setTop (mkF m 141 #[.val (.ref a1), .val (.int p2), .val (.int p3), .val (.int p4), .val (.int (2 : Int32)), .val (.int (0 : Int32)), .val (.int (6 : Int32))] [(.int (0 : Int32)), (.ref a8)])) _
    refine X28.aaload hx (j := (0 : Int32)) (v := (.ref a12)) (by rw [e28]; exact Ar29.1) (State.isArrayOf_alike hZ.alike Ar29.2.1) rfl Ar29.2.2 hin29 hat29 (g := (mkF m 141 #[.val (.ref a1), .val (.int p2), .val (.int p3), .val (.int p4), .val (.int (2 : Int32)), .val (.int (0 : Int32)), .val (.int (6 : Int32))] [(.int (0 : Int32)), (.ref a8)])) rfl rfl (hb hby d3_141) _ ?_
    show Steps p.tables e below (T28.setTop (mkF m 142 #[.val (.ref a1), .val (.int p2), .val (.int p3), .val (.int p4), .val (.int (2 : Int32)), .val (.int (0 : Int32)), .val (.int (6 : Int32))] [(.ref a12)])) _
    refine XS.iload X28.here hx rfl (hb hby d3_142) rfl ?_
    show Steps p.tables e below (T28.setTop (mkF m 144 #[.val (.ref a1), .val (.int p2), .val (.int p3), .val (.int p4), .val (.int (2 : Int32)), .val (.int (0 : Int32)), .val (.int (6 : Int32))] [(.int (6 : Int32)), (.ref a12)])) _
    refine XS.iloadN X28.here hx rfl (hb hby d3_144) rfl ?_
    show Steps p.tables e below (T28.setTop (mkF m 145 #[.val (.ref a1), .val (.int p2), .val (.int p3), .val (.int p4), .val (.int (2 : Int32)), .val (.int (0 : Int32)), .val (.int (6 : Int32))] [(.int p2), (.int (6 : Int32)), (.ref a12)])) _
    refine st32 _ ?_
    show Steps p.tables e below (T32.setTop (mkF m 146 #[.val (.ref a1), .val (.int p2), .val (.int p3), .val (.int p4), .val (.int (2 : Int32)), .val (.int (0 : Int32)), .val (.int (6 : Int32))] [])) _
    refine XS.aloadN X32.here hx rfl (hb hby d3_146) rfl rfl ?_
    show Steps p.tables e below (T32.setTop (mkF m 147 #[.val (.ref a1), .val (.int p2), .val (.int p3), .val (.int p4), .val (.int (2 : Int32)), .val (.int (0 : Int32)), .val (.int (6 : Int32))] [(.ref a1)])) _
    refine st35 _ ?_
    show Steps p.tables e below (T35.setTop (mkF m 150 #[.val (.ref a1), .val (.int p2), .val (.int p3), .val (.int p4), .val (.int (2 : Int32)), .val (.int (0 : Int32)), .val (.int (6 : Int32))] [(.ref a8)])) _
    refine XS.iload X35.here hx rfl (hb hby d3_150) rfl ?_
    show Steps p.tables e below (T35.setTop (mkF m 152 #[.val (.ref a1), .val (.int p2), .val (.int p3), .val (.int p4), .val (.int (2 : Int32)), .val (.int (0 : Int32)), .val (.int (6 : Int32))] [(.int (0 : Int32)), (.ref a8)])) _
    refine X35.aaload hx (j := (0 : Int32)) (v := (.ref a12)) (by rw [e35]; exact Ar37.1) (State.isArrayOf_alike hZ.alike Ar37.2.1) rfl Ar37.2.2 hin37 hat37 (g := (mkF m 152 #[.val (.ref a1), .val (.int p2), .val (.int p3), .val (.int p4), .val (.int (2 : Int32)), .val (.int (0 : Int32)), .val (.int (6 : Int32))] [(.int (0 : Int32)), (.ref a8)])) rfl rfl (hb hby d3_152) _ ?_
    show Steps p.tables e below (T35.setTop (mkF m 153 #[.val (.ref a1), .val (.int p2), .val (.int p3), .val (.int p4), .val (.int (2 : Int32)), .val (.int (0 : Int32)), .val (.int (6 : Int32))] [(.ref a12)])) _
    refine XS.iload X35.here hx rfl (hb hby d3_153) rfl ?_
    show Steps p.tables e below (T35.setTop (mkF m 155 #[.val (.ref a1), .val (.int p2), .val (.int p3), .val (.int p4), .val (.int (2 : Int32)), .val (.int (0 : Int32)), .val (.int (6 : Int32))] [(.int (6 : Int32)), (.ref a12)])) _
    refine XS.iconst X35.here hx rfl (hb hby d3_155) ?_
    show Steps p.tables e below (T35.setTop (mkF m 156 #[.val (.ref a1), .val (.int p2), .val (.int p3), .val (.int p4), .val (.int (2 : Int32)), .val (.int (0 : Int32)), .val (.int (6 : Int32))] [(.int (1 : Int32)), (.int (6 : Int32)), (.ref a12)])) _
    refine XS.iadd X35.here hx rfl (hb hby d3_156) rfl ?_
    show Steps p.tables e below (T35.setTop (mkF m 157 #[.val (.ref a1), .val (.int p2), .val (.int p3), .val (.int p4), .val (.int (2 : Int32)), .val (.int (0 : Int32)), .val (.int (6 : Int32))] [(.int ((6 : Int32) + (1 : Int32))), (.ref a12)])) _
    rw [show ((6 : Int32) + (1 : Int32)) = (7 : Int32) from by decide]
    show Steps p.tables e below (T35.setTop (mkF m 157 #[.val (.ref a1), .val (.int p2), .val (.int p3), .val (.int p4), .val (.int (2 : Int32)), .val (.int (0 : Int32)), .val (.int (6 : Int32))] [(.int (7 : Int32)), (.ref a12)])) _
    refine XS.iloadN X35.here hx rfl (hb hby d3_157) rfl ?_
    show Steps p.tables e below (T35.setTop (mkF m 158 #[.val (.ref a1), .val (.int p2), .val (.int p3), .val (.int p4), .val (.int (2 : Int32)), .val (.int (0 : Int32)), .val (.int (6 : Int32))] [(.int p3), (.int (7 : Int32)), (.ref a12)])) _
    refine st40 _ ?_
    show Steps p.tables e below (T40.setTop (mkF m 159 #[.val (.ref a1), .val (.int p2), .val (.int p3), .val (.int p4), .val (.int (2 : Int32)), .val (.int (0 : Int32)), .val (.int (6 : Int32))] [])) _
    refine XS.aloadN X40.here hx rfl (hb hby d3_159) rfl rfl ?_
    show Steps p.tables e below (T40.setTop (mkF m 160 #[.val (.ref a1), .val (.int p2), .val (.int p3), .val (.int p4), .val (.int (2 : Int32)), .val (.int (0 : Int32)), .val (.int (6 : Int32))] [(.ref a1)])) _
    refine st42 _ ?_
    show Steps p.tables e below (T42.setTop (mkF m 163 #[.val (.ref a1), .val (.int p2), .val (.int p3), .val (.int p4), .val (.int (2 : Int32)), .val (.int (0 : Int32)), .val (.int (6 : Int32))] [(.ref a8)])) _
    refine XS.iload X42.here hx rfl (hb hby d3_163) rfl ?_
    show Steps p.tables e below (T42.setTop (mkF m 165 #[.val (.ref a1), .val (.int p2), .val (.int p3), .val (.int p4), .val (.int (2 : Int32)), .val (.int (0 : Int32)), .val (.int (6 : Int32))] [(.int (0 : Int32)), (.ref a8)])) _
    refine X42.aaload hx (j := (0 : Int32)) (v := (.ref a12)) (by rw [e42]; exact Ar44.1) (State.isArrayOf_alike hZ.alike Ar44.2.1) rfl Ar44.2.2 hin44 hat44 (g := (mkF m 165 #[.val (.ref a1), .val (.int p2), .val (.int p3), .val (.int p4), .val (.int (2 : Int32)), .val (.int (0 : Int32)), .val (.int (6 : Int32))] [(.int (0 : Int32)), (.ref a8)])) rfl rfl (hb hby d3_165) _ ?_
    show Steps p.tables e below (T42.setTop (mkF m 166 #[.val (.ref a1), .val (.int p2), .val (.int p3), .val (.int p4), .val (.int (2 : Int32)), .val (.int (0 : Int32)), .val (.int (6 : Int32))] [(.ref a12)])) _
    refine XS.iload X42.here hx rfl (hb hby d3_166) rfl ?_
    show Steps p.tables e below (T42.setTop (mkF m 168 #[.val (.ref a1), .val (.int p2), .val (.int p3), .val (.int p4), .val (.int (2 : Int32)), .val (.int (0 : Int32)), .val (.int (6 : Int32))] [(.int (6 : Int32)), (.ref a12)])) _
    refine XS.iconst X42.here hx rfl (hb hby d3_168) ?_
    show Steps p.tables e below (T42.setTop (mkF m 169 #[.val (.ref a1), .val (.int p2), .val (.int p3), .val (.int p4), .val (.int (2 : Int32)), .val (.int (0 : Int32)), .val (.int (6 : Int32))] [(.int (2 : Int32)), (.int (6 : Int32)), (.ref a12)])) _
    refine XS.iadd X42.here hx rfl (hb hby d3_169) rfl ?_
    show Steps p.tables e below (T42.setTop (mkF m 170 #[.val (.ref a1), .val (.int p2), .val (.int p3), .val (.int p4), .val (.int (2 : Int32)), .val (.int (0 : Int32)), .val (.int (6 : Int32))] [(.int ((6 : Int32) + (2 : Int32))), (.ref a12)])) _
    rw [show ((6 : Int32) + (2 : Int32)) = (8 : Int32) from by decide]
    show Steps p.tables e below (T42.setTop (mkF m 170 #[.val (.ref a1), .val (.int p2), .val (.int p3), .val (.int p4), .val (.int (2 : Int32)), .val (.int (0 : Int32)), .val (.int (6 : Int32))] [(.int (8 : Int32)), (.ref a12)])) _
    refine XS.iloadN X42.here hx rfl (hb hby d3_170) rfl ?_
    show Steps p.tables e below (T42.setTop (mkF m 171 #[.val (.ref a1), .val (.int p2), .val (.int p3), .val (.int p4), .val (.int (2 : Int32)), .val (.int (0 : Int32)), .val (.int (6 : Int32))] [(.int p4), (.int (8 : Int32)), (.ref a12)])) _
    refine st47 _ ?_
    show Steps p.tables e below (T47.setTop (mkF m 172 #[.val (.ref a1), .val (.int p2), .val (.int p3), .val (.int p4), .val (.int (2 : Int32)), .val (.int (0 : Int32)), .val (.int (6 : Int32))] [])) _
    refine XS.aloadN X47.here hx rfl (hb hby d3_172) rfl rfl ?_
    show Steps p.tables e below (T47.setTop (mkF m 173 #[.val (.ref a1), .val (.int p2), .val (.int p3), .val (.int p4), .val (.int (2 : Int32)), .val (.int (0 : Int32)), .val (.int (6 : Int32))] [(.ref a1)])) _
    refine XS.dup X47.here hx rfl (hb hby d3_173) rfl rfl ?_
    show Steps p.tables e below (T47.setTop (mkF m 174 #[.val (.ref a1), .val (.int p2), .val (.int p3), .val (.int p4), .val (.int (2 : Int32)), .val (.int (0 : Int32)), .val (.int (6 : Int32))] [(.ref a1), (.ref a1)])) _
    refine st49 _ ?_
    show Steps p.tables e below (T49.setTop (mkF m 177 #[.val (.ref a1), .val (.int p2), .val (.int p3), .val (.int p4), .val (.int (2 : Int32)), .val (.int (0 : Int32)), .val (.int (6 : Int32))] [(.int (2 : Int32)), (.ref a1)])) _
    refine XS.iconst X49.here hx rfl (hb hby d3_177) ?_
    show Steps p.tables e below (T49.setTop (mkF m 178 #[.val (.ref a1), .val (.int p2), .val (.int p3), .val (.int p4), .val (.int (2 : Int32)), .val (.int (0 : Int32)), .val (.int (6 : Int32))] [(.int (1 : Int32)), (.int (2 : Int32)), (.ref a1)])) _
    refine XS.iadd X49.here hx rfl (hb hby d3_178) rfl ?_
    show Steps p.tables e below (T49.setTop (mkF m 179 #[.val (.ref a1), .val (.int p2), .val (.int p3), .val (.int p4), .val (.int (2 : Int32)), .val (.int (0 : Int32)), .val (.int (6 : Int32))] [(.int ((2 : Int32) + (1 : Int32))), (.ref a1)])) _
    rw [show ((2 : Int32) + (1 : Int32)) = (3 : Int32) from by decide]
    show Steps p.tables e below (T49.setTop (mkF m 179 #[.val (.ref a1), .val (.int p2), .val (.int p3), .val (.int p4), .val (.int (2 : Int32)), .val (.int (0 : Int32)), .val (.int (6 : Int32))] [(.int (3 : Int32)), (.ref a1)])) _
    refine st52 _ ?_
    show Steps p.tables e below (T52.setTop (mkF m 182 #[.val (.ref a1), .val (.int p2), .val (.int p3), .val (.int p4), .val (.int (2 : Int32)), .val (.int (0 : Int32)), .val (.int (6 : Int32))] [])) _
    refine XS.iload X52.here hx rfl (hb hby d3_182) rfl ?_
    show Steps p.tables e below (T52.setTop (mkF m 184 #[.val (.ref a1), .val (.int p2), .val (.int p3), .val (.int p4), .val (.int (2 : Int32)), .val (.int (0 : Int32)), .val (.int (6 : Int32))] [(.int (2 : Int32))])) _
    exact retI X52 hx Bd.returns (hb hby d3_184) hr
  · show Qrm3_2 Z a1 p2 p3 p4 a8 k11 a12 k19 p20 p21 p22 p23 p24 p25 h0 n0 _ T52.heap _
    rw [e52]
    exact ⟨rfl, N52, K52, f53, f54, Fw52, f55, f56⟩
def Qrm4_1 (Z : State) (a1 : Addr) (a2 : Addr) (k5 : ClassId) (a6 : Addr) (k9 : ClassId) (p10 : Int32) (p11 : Int32) (p12 : Int32) (p13 : Int32) (p14 : Int32) (p15 : Int32) (p16 : Int32) (p17 : Int32) (p18 : Int32) (h0 : Heap) (n0 : Nat) (v : Option Value) (h : Heap) (L : List Loc) : Prop := v = some (.int p11) ∧ Fr n0 L ∧ h = h0
set_option maxRecDepth 65536 in
set_option maxHeartbeats 40000000 in
theorem rm4_1 (l : Launch) (Z : State) (a0 : Array Value) (hw : ∀ d ∈ tables_1, d.before a0 Z = true) (ws : List Jvm.Cond) (a1 : Addr) (a2 : Addr) (k5 : ClassId) (a6 : Addr) (k9 : ClassId) (p10 : Int32) (p11 : Int32) (p12 : Int32) (p13 : Int32) (p14 : Int32) (p15 : Int32) (p16 : Int32) (p17 : Int32) (p18 : Int32) (h0 : Heap) (n0 : Nat) (O0 : Old Z n0 h0) (F_3 : Fld Z h0 a1 "com/example/rokin/rokin/store/TripleColumns" "pages" "[[I" (.ref a2)) (V_7 : Arv Z h0 a2 k5 (.array .int) (1 : Int32) [(.ref a6)] .null) (V_19 : Arv Z h0 a6 k9 .int (3072 : Int32) [(.int p10), (.int p11), (.int p12), (.int p13), (.int p14), (.int p15), (.int p16), (.int p17), (.int p18)] (.int (0 : Int32))) :
    MetFree l (⟨"com/example/rokin/rokin/store/TripleColumns", "predicate", "(I)I"⟩ : MethodName) (head1 (Jvm.Cond.code (⟨"com/example/rokin/rokin/store/TripleColumns", "predicate", "(I)I"⟩ : MethodName) prog_108_method_4_code 2 (some .int) :: ws) ({ frames := 0, cells := 0, slots := 0, locals := 0 } : Room)) (fun a U => a = #[(.ref a1), (.int (0 : Int32))] ∧ Z.Warmed39 U.vm ∧ U.heap = h0) (fun _ _ _ _ _ => True) (fun _ U o U' => ∃ v L, o = .returned v ∧ Qrm4_1 Z a1 a2 k5 a6 k9 p10 p11 p12 p13 p14 p15 p16 p17 p18 h0 n0 v U'.heap L ∧ FrameEnd U o U' L ({ frames := 0, cells := 0, slots := 0, locals := 0 } : Room).cells ({ frames := 0, cells := 0, slots := 0, locals := 0 } : Room).slots) := by
  refine MetFree.of_bodySF (plainFor_of_name pn_0) hisR ?_
  intro p e s m args below meth c s₁ Bd hml0 hP hK
  obtain ⟨rfl, hZ, hh⟩ := hP
  have hx := Bd.exec
  have hby := Bd.bytes
  have hml : c.maxLocals = 2 := hml0
  have hown : s.vm.findClass "com/example/rokin/rokin/store/TripleColumns" = some m.cls := findClass_of_methodNamed Bd.named
  have hnm := (name_of_methodNamed Bd.named Bd.method).1
  have X0 : Stand p l e ({ frames := 0, cells := 0, slots := 0, locals := 0 } : Room) s m #[(.ref a1), (.int (0 : Int32))] below meth c s₁ [] 0 0 := Stand.of_body Bd
  have e0 : s₁.heap = h0 := by rw [← hh, Bd.state]; rfl
  have N0 := Fr.nil n0
  have pre0 : ∀ t, Steps p.tables e below (s₁.setTop (mkF m 0 #[.val (.ref a1), .val (.int (0 : Int32))] [])) t → Steps p.tables e below (s₁.setTop (entryFrame m #[(.ref a1), (.int (0 : Int32))] 2)) t := fun t k => castTop (ef_4_RI m a1 (0 : Int32)) k
  obtain ⟨T4, X4, e4, st4⟩ := getF X0 hx hZ hown (host := "") (Or.inl (hw _ (List.mem_of_getElem? (i := 13) rfl))) Via.refl e0 F_3 (g := (mkF m 1 #[.val (.ref a1), .val (.int (0 : Int32))] [(.ref a1)])) rfl rfl (hb hby d4_1)
  obtain ⟨cl8, Ar8, q8, S8, M8, Hs8, G8⟩ := id V_7
  have hin8 : ¬ ((0 : Int32) < 0 ∨ cl8.slots.size ≤ ((0 : Int32)).toNatClampNeg) := inb_of S8 ⟨by decide, by decide⟩
  have hat8 : cl8.slots[((0 : Int32)).toNatClampNeg]? = some (.ref a6) := Has.at Hs8 hin8 rfl
  obtain ⟨cl20, Ar20, q20, S20, M20, Hs20, G20⟩ := id V_19
  have hin20 : ¬ ((1 : Int32) < 0 ∨ cl20.slots.size ≤ ((1 : Int32)).toNatClampNeg) := inb_of S20 ⟨by decide, by decide⟩
  have hat20 : cl20.slots[((1 : Int32)).toNatClampNeg]? = some (.int p11) := Has.at Hs20 hin20 rfl
  obtain ⟨fs, hr, hrun, hended, hW, hsame⟩ := X4.leave (v := some (.int p11)) (fun h => by rw [Bd.returns] at h; cases h)
  refine ⟨_, _, pre0 _ ?_, hrun, hended, _, _, rfl, ?_, ⟨_, rfl⟩, hW, hsame.mono (by decide) (by decide)⟩
  · show Steps p.tables e below (s₁.setTop (mkF m 0 #[.val (.ref a1), .val (.int (0 : Int32))] [])) _
    refine XS.aloadN X0.here hx rfl (hb hby d4_0) rfl rfl ?_
    show Steps p.tables e below (s₁.setTop (mkF m 1 #[.val (.ref a1), .val (.int (0 : Int32))] [(.ref a1)])) _
    refine st4 _ ?_
    show Steps p.tables e below (T4.setTop (mkF m 4 #[.val (.ref a1), .val (.int (0 : Int32))] [(.ref a2)])) _
    refine XS.iloadN X4.here hx rfl (hb hby d4_4) rfl ?_
    show Steps p.tables e below (T4.setTop (mkF m 5 #[.val (.ref a1), .val (.int (0 : Int32))] [(.int (0 : Int32)), (.ref a2)])) _
    refine XS.bipush X4.here hx rfl (hb hby d4_5) ?_
    show Steps p.tables e below (T4.setTop (mkF m 7 #[.val (.ref a1), .val (.int (0 : Int32))] [(.int (15 : Int32)), (.int (0 : Int32)), (.ref a2)])) _
    refine XS.iushr X4.here hx rfl (hb hby d4_7) rfl ?_
    show Steps p.tables e below (T4.setTop (mkF m 8 #[.val (.ref a1), .val (.int (0 : Int32))] [(.int (((0 : Int32).toUInt32 >>> ((15 : Int32) &&& 31).toUInt32).toInt32)), (.ref a2)])) _
    rw [show (((0 : Int32).toUInt32 >>> ((15 : Int32) &&& 31).toUInt32).toInt32) = (0 : Int32) from by decide]
    show Steps p.tables e below (T4.setTop (mkF m 8 #[.val (.ref a1), .val (.int (0 : Int32))] [(.int (0 : Int32)), (.ref a2)])) _
    refine X4.aaload hx (j := (0 : Int32)) (v := (.ref a6)) (by rw [e4]; exact Ar8.1) (State.isArrayOf_alike hZ.alike Ar8.2.1) rfl Ar8.2.2 hin8 hat8 (g := (mkF m 8 #[.val (.ref a1), .val (.int (0 : Int32))] [(.int (0 : Int32)), (.ref a2)])) rfl rfl (hb hby d4_8) _ ?_
    show Steps p.tables e below (T4.setTop (mkF m 9 #[.val (.ref a1), .val (.int (0 : Int32))] [(.ref a6)])) _
    refine XS.iconst X4.here hx rfl (hb hby d4_9) ?_
    show Steps p.tables e below (T4.setTop (mkF m 10 #[.val (.ref a1), .val (.int (0 : Int32))] [(.int (3 : Int32)), (.ref a6)])) _
    refine XS.iloadN X4.here hx rfl (hb hby d4_10) rfl ?_
    show Steps p.tables e below (T4.setTop (mkF m 11 #[.val (.ref a1), .val (.int (0 : Int32))] [(.int (0 : Int32)), (.int (3 : Int32)), (.ref a6)])) _
    refine XS.sipush X4.here hx rfl (hb hby d4_11) ?_
    show Steps p.tables e below (T4.setTop (mkF m 14 #[.val (.ref a1), .val (.int (0 : Int32))] [(.int (32767 : Int32)), (.int (0 : Int32)), (.int (3 : Int32)), (.ref a6)])) _
    refine XS.iand X4.here hx rfl (hb hby d4_14) rfl ?_
    show Steps p.tables e below (T4.setTop (mkF m 15 #[.val (.ref a1), .val (.int (0 : Int32))] [(.int ((0 : Int32) &&& (32767 : Int32))), (.int (3 : Int32)), (.ref a6)])) _
    rw [show ((0 : Int32) &&& (32767 : Int32)) = (0 : Int32) from by decide]
    show Steps p.tables e below (T4.setTop (mkF m 15 #[.val (.ref a1), .val (.int (0 : Int32))] [(.int (0 : Int32)), (.int (3 : Int32)), (.ref a6)])) _
    refine XS.imul X4.here hx rfl (hb hby d4_15) rfl ?_
    show Steps p.tables e below (T4.setTop (mkF m 16 #[.val (.ref a1), .val (.int (0 : Int32))] [(.int ((3 : Int32) * (0 : Int32))), (.ref a6)])) _
    rw [show ((3 : Int32) * (0 : Int32)) = (0 : Int32) from by decide]
    show Steps p.tables e below (T4.setTop (mkF m 16 #[.val (.ref a1), .val (.int (0 : Int32))] [(.int (0 : Int32)), (.ref a6)])) _
    refine XS.iconst X4.here hx rfl (hb hby d4_16) ?_
    show Steps p.tables e below (T4.setTop (mkF m 17 #[.val (.ref a1), .val (.int (0 : Int32))] [(.int (1 : Int32)), (.int (0 : Int32)), (.ref a6)])) _
    refine XS.iadd X4.here hx rfl (hb hby d4_17) rfl ?_
    show Steps p.tables e below (T4.setTop (mkF m 18 #[.val (.ref a1), .val (.int (0 : Int32))] [(.int ((0 : Int32) + (1 : Int32))), (.ref a6)])) _
    rw [show ((0 : Int32) + (1 : Int32)) = (1 : Int32) from by decide]
    show Steps p.tables e below (T4.setTop (mkF m 18 #[.val (.ref a1), .val (.int (0 : Int32))] [(.int (1 : Int32)), (.ref a6)])) _
    refine X4.iaload hx (j := (1 : Int32)) (v := (.int p11)) (by rw [e4]; exact Ar20.1) (State.isArrayOf_alike hZ.alike Ar20.2.1) Ar20.2.2 hin20 hat20 (g := (mkF m 18 #[.val (.ref a1), .val (.int (0 : Int32))] [(.int (1 : Int32)), (.ref a6)])) rfl rfl (hb hby d4_18) _ ?_
    show Steps p.tables e below (T4.setTop (mkF m 19 #[.val (.ref a1), .val (.int (0 : Int32))] [(.int p11)])) _
    exact retI X4 hx Bd.returns (hb hby d4_19) hr
  · show Qrm4_1 Z a1 a2 k5 a6 k9 p10 p11 p12 p13 p14 p15 p16 p17 p18 h0 n0 _ T4.heap _
    rw [e4]
    exact ⟨rfl, N0, rfl⟩
def Qrm4_2 (Z : State) (a1 : Addr) (a2 : Addr) (k5 : ClassId) (a6 : Addr) (k9 : ClassId) (p10 : Int32) (p11 : Int32) (p12 : Int32) (p13 : Int32) (p14 : Int32) (p15 : Int32) (p16 : Int32) (p17 : Int32) (p18 : Int32) (h0 : Heap) (n0 : Nat) (v : Option Value) (h : Heap) (L : List Loc) : Prop := v = some (.int p14) ∧ Fr n0 L ∧ h = h0
set_option maxRecDepth 65536 in
set_option maxHeartbeats 40000000 in
theorem rm4_2 (l : Launch) (Z : State) (a0 : Array Value) (hw : ∀ d ∈ tables_1, d.before a0 Z = true) (ws : List Jvm.Cond) (a1 : Addr) (a2 : Addr) (k5 : ClassId) (a6 : Addr) (k9 : ClassId) (p10 : Int32) (p11 : Int32) (p12 : Int32) (p13 : Int32) (p14 : Int32) (p15 : Int32) (p16 : Int32) (p17 : Int32) (p18 : Int32) (h0 : Heap) (n0 : Nat) (O0 : Old Z n0 h0) (F_3 : Fld Z h0 a1 "com/example/rokin/rokin/store/TripleColumns" "pages" "[[I" (.ref a2)) (V_7 : Arv Z h0 a2 k5 (.array .int) (1 : Int32) [(.ref a6)] .null) (V_19 : Arv Z h0 a6 k9 .int (3072 : Int32) [(.int p10), (.int p11), (.int p12), (.int p13), (.int p14), (.int p15), (.int p16), (.int p17), (.int p18)] (.int (0 : Int32))) :
    MetFree l (⟨"com/example/rokin/rokin/store/TripleColumns", "predicate", "(I)I"⟩ : MethodName) (head1 (Jvm.Cond.code (⟨"com/example/rokin/rokin/store/TripleColumns", "predicate", "(I)I"⟩ : MethodName) prog_108_method_4_code 2 (some .int) :: ws) ({ frames := 0, cells := 0, slots := 0, locals := 0 } : Room)) (fun a U => a = #[(.ref a1), (.int (1 : Int32))] ∧ Z.Warmed39 U.vm ∧ U.heap = h0) (fun _ _ _ _ _ => True) (fun _ U o U' => ∃ v L, o = .returned v ∧ Qrm4_2 Z a1 a2 k5 a6 k9 p10 p11 p12 p13 p14 p15 p16 p17 p18 h0 n0 v U'.heap L ∧ FrameEnd U o U' L ({ frames := 0, cells := 0, slots := 0, locals := 0 } : Room).cells ({ frames := 0, cells := 0, slots := 0, locals := 0 } : Room).slots) := by
  refine MetFree.of_bodySF (plainFor_of_name pn_0) hisR ?_
  intro p e s m args below meth c s₁ Bd hml0 hP hK
  obtain ⟨rfl, hZ, hh⟩ := hP
  have hx := Bd.exec
  have hby := Bd.bytes
  have hml : c.maxLocals = 2 := hml0
  have hown : s.vm.findClass "com/example/rokin/rokin/store/TripleColumns" = some m.cls := findClass_of_methodNamed Bd.named
  have hnm := (name_of_methodNamed Bd.named Bd.method).1
  have X0 : Stand p l e ({ frames := 0, cells := 0, slots := 0, locals := 0 } : Room) s m #[(.ref a1), (.int (1 : Int32))] below meth c s₁ [] 0 0 := Stand.of_body Bd
  have e0 : s₁.heap = h0 := by rw [← hh, Bd.state]; rfl
  have N0 := Fr.nil n0
  have pre0 : ∀ t, Steps p.tables e below (s₁.setTop (mkF m 0 #[.val (.ref a1), .val (.int (1 : Int32))] [])) t → Steps p.tables e below (s₁.setTop (entryFrame m #[(.ref a1), (.int (1 : Int32))] 2)) t := fun t k => castTop (ef_4_RI m a1 (1 : Int32)) k
  obtain ⟨T4, X4, e4, st4⟩ := getF X0 hx hZ hown (host := "") (Or.inl (hw _ (List.mem_of_getElem? (i := 13) rfl))) Via.refl e0 F_3 (g := (mkF m 1 #[.val (.ref a1), .val (.int (1 : Int32))] [(.ref a1)])) rfl rfl (hb hby d4_1)
  obtain ⟨cl8, Ar8, q8, S8, M8, Hs8, G8⟩ := id V_7
  have hin8 : ¬ ((0 : Int32) < 0 ∨ cl8.slots.size ≤ ((0 : Int32)).toNatClampNeg) := inb_of S8 ⟨by decide, by decide⟩
  have hat8 : cl8.slots[((0 : Int32)).toNatClampNeg]? = some (.ref a6) := Has.at Hs8 hin8 rfl
  obtain ⟨cl20, Ar20, q20, S20, M20, Hs20, G20⟩ := id V_19
  have hin20 : ¬ ((4 : Int32) < 0 ∨ cl20.slots.size ≤ ((4 : Int32)).toNatClampNeg) := inb_of S20 ⟨by decide, by decide⟩
  have hat20 : cl20.slots[((4 : Int32)).toNatClampNeg]? = some (.int p14) := Has.at Hs20 hin20 rfl
  obtain ⟨fs, hr, hrun, hended, hW, hsame⟩ := X4.leave (v := some (.int p14)) (fun h => by rw [Bd.returns] at h; cases h)
  refine ⟨_, _, pre0 _ ?_, hrun, hended, _, _, rfl, ?_, ⟨_, rfl⟩, hW, hsame.mono (by decide) (by decide)⟩
  · show Steps p.tables e below (s₁.setTop (mkF m 0 #[.val (.ref a1), .val (.int (1 : Int32))] [])) _
    refine XS.aloadN X0.here hx rfl (hb hby d4_0) rfl rfl ?_
    show Steps p.tables e below (s₁.setTop (mkF m 1 #[.val (.ref a1), .val (.int (1 : Int32))] [(.ref a1)])) _
    refine st4 _ ?_
    show Steps p.tables e below (T4.setTop (mkF m 4 #[.val (.ref a1), .val (.int (1 : Int32))] [(.ref a2)])) _
    refine XS.iloadN X4.here hx rfl (hb hby d4_4) rfl ?_
    show Steps p.tables e below (T4.setTop (mkF m 5 #[.val (.ref a1), .val (.int (1 : Int32))] [(.int (1 : Int32)), (.ref a2)])) _
    refine XS.bipush X4.here hx rfl (hb hby d4_5) ?_
    show Steps p.tables e below (T4.setTop (mkF m 7 #[.val (.ref a1), .val (.int (1 : Int32))] [(.int (15 : Int32)), (.int (1 : Int32)), (.ref a2)])) _
    refine XS.iushr X4.here hx rfl (hb hby d4_7) rfl ?_
    show Steps p.tables e below (T4.setTop (mkF m 8 #[.val (.ref a1), .val (.int (1 : Int32))] [(.int (((1 : Int32).toUInt32 >>> ((15 : Int32) &&& 31).toUInt32).toInt32)), (.ref a2)])) _
    rw [show (((1 : Int32).toUInt32 >>> ((15 : Int32) &&& 31).toUInt32).toInt32) = (0 : Int32) from by decide]
    show Steps p.tables e below (T4.setTop (mkF m 8 #[.val (.ref a1), .val (.int (1 : Int32))] [(.int (0 : Int32)), (.ref a2)])) _
    refine X4.aaload hx (j := (0 : Int32)) (v := (.ref a6)) (by rw [e4]; exact Ar8.1) (State.isArrayOf_alike hZ.alike Ar8.2.1) rfl Ar8.2.2 hin8 hat8 (g := (mkF m 8 #[.val (.ref a1), .val (.int (1 : Int32))] [(.int (0 : Int32)), (.ref a2)])) rfl rfl (hb hby d4_8) _ ?_
    show Steps p.tables e below (T4.setTop (mkF m 9 #[.val (.ref a1), .val (.int (1 : Int32))] [(.ref a6)])) _
    refine XS.iconst X4.here hx rfl (hb hby d4_9) ?_
    show Steps p.tables e below (T4.setTop (mkF m 10 #[.val (.ref a1), .val (.int (1 : Int32))] [(.int (3 : Int32)), (.ref a6)])) _
    refine XS.iloadN X4.here hx rfl (hb hby d4_10) rfl ?_
    show Steps p.tables e below (T4.setTop (mkF m 11 #[.val (.ref a1), .val (.int (1 : Int32))] [(.int (1 : Int32)), (.int (3 : Int32)), (.ref a6)])) _
    refine XS.sipush X4.here hx rfl (hb hby d4_11) ?_
    show Steps p.tables e below (T4.setTop (mkF m 14 #[.val (.ref a1), .val (.int (1 : Int32))] [(.int (32767 : Int32)), (.int (1 : Int32)), (.int (3 : Int32)), (.ref a6)])) _
    refine XS.iand X4.here hx rfl (hb hby d4_14) rfl ?_
    show Steps p.tables e below (T4.setTop (mkF m 15 #[.val (.ref a1), .val (.int (1 : Int32))] [(.int ((1 : Int32) &&& (32767 : Int32))), (.int (3 : Int32)), (.ref a6)])) _
    rw [show ((1 : Int32) &&& (32767 : Int32)) = (1 : Int32) from by decide]
    show Steps p.tables e below (T4.setTop (mkF m 15 #[.val (.ref a1), .val (.int (1 : Int32))] [(.int (1 : Int32)), (.int (3 : Int32)), (.ref a6)])) _
    refine XS.imul X4.here hx rfl (hb hby d4_15) rfl ?_
    show Steps p.tables e below (T4.setTop (mkF m 16 #[.val (.ref a1), .val (.int (1 : Int32))] [(.int ((3 : Int32) * (1 : Int32))), (.ref a6)])) _
    rw [show ((3 : Int32) * (1 : Int32)) = (3 : Int32) from by decide]
    show Steps p.tables e below (T4.setTop (mkF m 16 #[.val (.ref a1), .val (.int (1 : Int32))] [(.int (3 : Int32)), (.ref a6)])) _
    refine XS.iconst X4.here hx rfl (hb hby d4_16) ?_
    show Steps p.tables e below (T4.setTop (mkF m 17 #[.val (.ref a1), .val (.int (1 : Int32))] [(.int (1 : Int32)), (.int (3 : Int32)), (.ref a6)])) _
    refine XS.iadd X4.here hx rfl (hb hby d4_17) rfl ?_
    show Steps p.tables e below (T4.setTop (mkF m 18 #[.val (.ref a1), .val (.int (1 : Int32))] [(.int ((3 : Int32) + (1 : Int32))), (.ref a6)])) _
    rw [show ((3 : Int32) + (1 : Int32)) = (4 : Int32) from by decide]
    show Steps p.tables e below (T4.setTop (mkF m 18 #[.val (.ref a1), .val (.int (1 : Int32))] [(.int (4 : Int32)), (.ref a6)])) _
    refine X4.iaload hx (j := (4 : Int32)) (v := (.int p14)) (by rw [e4]; exact Ar20.1) (State.isArrayOf_alike hZ.alike Ar20.2.1) Ar20.2.2 hin20 hat20 (g := (mkF m 18 #[.val (.ref a1), .val (.int (1 : Int32))] [(.int (4 : Int32)), (.ref a6)])) rfl rfl (hb hby d4_18) _ ?_
    show Steps p.tables e below (T4.setTop (mkF m 19 #[.val (.ref a1), .val (.int (1 : Int32))] [(.int p14)])) _
    exact retI X4 hx Bd.returns (hb hby d4_19) hr
  · show Qrm4_2 Z a1 a2 k5 a6 k9 p10 p11 p12 p13 p14 p15 p16 p17 p18 h0 n0 _ T4.heap _
    rw [e4]
    exact ⟨rfl, N0, rfl⟩
def Qrm4_3 (Z : State) (a1 : Addr) (a2 : Addr) (k5 : ClassId) (a6 : Addr) (k9 : ClassId) (p10 : Int32) (p11 : Int32) (p12 : Int32) (p13 : Int32) (p14 : Int32) (p15 : Int32) (p16 : Int32) (p17 : Int32) (p18 : Int32) (h0 : Heap) (n0 : Nat) (v : Option Value) (h : Heap) (L : List Loc) : Prop := v = some (.int p17) ∧ Fr n0 L ∧ h = h0
set_option maxRecDepth 65536 in
set_option maxHeartbeats 40000000 in
theorem rm4_3 (l : Launch) (Z : State) (a0 : Array Value) (hw : ∀ d ∈ tables_1, d.before a0 Z = true) (ws : List Jvm.Cond) (a1 : Addr) (a2 : Addr) (k5 : ClassId) (a6 : Addr) (k9 : ClassId) (p10 : Int32) (p11 : Int32) (p12 : Int32) (p13 : Int32) (p14 : Int32) (p15 : Int32) (p16 : Int32) (p17 : Int32) (p18 : Int32) (h0 : Heap) (n0 : Nat) (O0 : Old Z n0 h0) (F_3 : Fld Z h0 a1 "com/example/rokin/rokin/store/TripleColumns" "pages" "[[I" (.ref a2)) (V_7 : Arv Z h0 a2 k5 (.array .int) (1 : Int32) [(.ref a6)] .null) (V_19 : Arv Z h0 a6 k9 .int (3072 : Int32) [(.int p10), (.int p11), (.int p12), (.int p13), (.int p14), (.int p15), (.int p16), (.int p17), (.int p18)] (.int (0 : Int32))) :
    MetFree l (⟨"com/example/rokin/rokin/store/TripleColumns", "predicate", "(I)I"⟩ : MethodName) (head1 (Jvm.Cond.code (⟨"com/example/rokin/rokin/store/TripleColumns", "predicate", "(I)I"⟩ : MethodName) prog_108_method_4_code 2 (some .int) :: ws) ({ frames := 0, cells := 0, slots := 0, locals := 0 } : Room)) (fun a U => a = #[(.ref a1), (.int (2 : Int32))] ∧ Z.Warmed39 U.vm ∧ U.heap = h0) (fun _ _ _ _ _ => True) (fun _ U o U' => ∃ v L, o = .returned v ∧ Qrm4_3 Z a1 a2 k5 a6 k9 p10 p11 p12 p13 p14 p15 p16 p17 p18 h0 n0 v U'.heap L ∧ FrameEnd U o U' L ({ frames := 0, cells := 0, slots := 0, locals := 0 } : Room).cells ({ frames := 0, cells := 0, slots := 0, locals := 0 } : Room).slots) := by
  refine MetFree.of_bodySF (plainFor_of_name pn_0) hisR ?_
  intro p e s m args below meth c s₁ Bd hml0 hP hK
  obtain ⟨rfl, hZ, hh⟩ := hP
  have hx := Bd.exec
  have hby := Bd.bytes
  have hml : c.maxLocals = 2 := hml0
  have hown : s.vm.findClass "com/example/rokin/rokin/store/TripleColumns" = some m.cls := findClass_of_methodNamed Bd.named
  have hnm := (name_of_methodNamed Bd.named Bd.method).1
  have X0 : Stand p l e ({ frames := 0, cells := 0, slots := 0, locals := 0 } : Room) s m #[(.ref a1), (.int (2 : Int32))] below meth c s₁ [] 0 0 := Stand.of_body Bd
  have e0 : s₁.heap = h0 := by rw [← hh, Bd.state]; rfl
  have N0 := Fr.nil n0
  have pre0 : ∀ t, Steps p.tables e below (s₁.setTop (mkF m 0 #[.val (.ref a1), .val (.int (2 : Int32))] [])) t → Steps p.tables e below (s₁.setTop (entryFrame m #[(.ref a1), (.int (2 : Int32))] 2)) t := fun t k => castTop (ef_4_RI m a1 (2 : Int32)) k
  obtain ⟨T4, X4, e4, st4⟩ := getF X0 hx hZ hown (host := "") (Or.inl (hw _ (List.mem_of_getElem? (i := 13) rfl))) Via.refl e0 F_3 (g := (mkF m 1 #[.val (.ref a1), .val (.int (2 : Int32))] [(.ref a1)])) rfl rfl (hb hby d4_1)
  obtain ⟨cl8, Ar8, q8, S8, M8, Hs8, G8⟩ := id V_7
  have hin8 : ¬ ((0 : Int32) < 0 ∨ cl8.slots.size ≤ ((0 : Int32)).toNatClampNeg) := inb_of S8 ⟨by decide, by decide⟩
  have hat8 : cl8.slots[((0 : Int32)).toNatClampNeg]? = some (.ref a6) := Has.at Hs8 hin8 rfl
  obtain ⟨cl20, Ar20, q20, S20, M20, Hs20, G20⟩ := id V_19
  have hin20 : ¬ ((7 : Int32) < 0 ∨ cl20.slots.size ≤ ((7 : Int32)).toNatClampNeg) := inb_of S20 ⟨by decide, by decide⟩
  have hat20 : cl20.slots[((7 : Int32)).toNatClampNeg]? = some (.int p17) := Has.at Hs20 hin20 rfl
  obtain ⟨fs, hr, hrun, hended, hW, hsame⟩ := X4.leave (v := some (.int p17)) (fun h => by rw [Bd.returns] at h; cases h)
  refine ⟨_, _, pre0 _ ?_, hrun, hended, _, _, rfl, ?_, ⟨_, rfl⟩, hW, hsame.mono (by decide) (by decide)⟩
  · show Steps p.tables e below (s₁.setTop (mkF m 0 #[.val (.ref a1), .val (.int (2 : Int32))] [])) _
    refine XS.aloadN X0.here hx rfl (hb hby d4_0) rfl rfl ?_
    show Steps p.tables e below (s₁.setTop (mkF m 1 #[.val (.ref a1), .val (.int (2 : Int32))] [(.ref a1)])) _
    refine st4 _ ?_
    show Steps p.tables e below (T4.setTop (mkF m 4 #[.val (.ref a1), .val (.int (2 : Int32))] [(.ref a2)])) _
    refine XS.iloadN X4.here hx rfl (hb hby d4_4) rfl ?_
    show Steps p.tables e below (T4.setTop (mkF m 5 #[.val (.ref a1), .val (.int (2 : Int32))] [(.int (2 : Int32)), (.ref a2)])) _
    refine XS.bipush X4.here hx rfl (hb hby d4_5) ?_
    show Steps p.tables e below (T4.setTop (mkF m 7 #[.val (.ref a1), .val (.int (2 : Int32))] [(.int (15 : Int32)), (.int (2 : Int32)), (.ref a2)])) _
    refine XS.iushr X4.here hx rfl (hb hby d4_7) rfl ?_
    show Steps p.tables e below (T4.setTop (mkF m 8 #[.val (.ref a1), .val (.int (2 : Int32))] [(.int (((2 : Int32).toUInt32 >>> ((15 : Int32) &&& 31).toUInt32).toInt32)), (.ref a2)])) _
    rw [show (((2 : Int32).toUInt32 >>> ((15 : Int32) &&& 31).toUInt32).toInt32) = (0 : Int32) from by decide]
    show Steps p.tables e below (T4.setTop (mkF m 8 #[.val (.ref a1), .val (.int (2 : Int32))] [(.int (0 : Int32)), (.ref a2)])) _
    refine X4.aaload hx (j := (0 : Int32)) (v := (.ref a6)) (by rw [e4]; exact Ar8.1) (State.isArrayOf_alike hZ.alike Ar8.2.1) rfl Ar8.2.2 hin8 hat8 (g := (mkF m 8 #[.val (.ref a1), .val (.int (2 : Int32))] [(.int (0 : Int32)), (.ref a2)])) rfl rfl (hb hby d4_8) _ ?_
    show Steps p.tables e below (T4.setTop (mkF m 9 #[.val (.ref a1), .val (.int (2 : Int32))] [(.ref a6)])) _
    refine XS.iconst X4.here hx rfl (hb hby d4_9) ?_
    show Steps p.tables e below (T4.setTop (mkF m 10 #[.val (.ref a1), .val (.int (2 : Int32))] [(.int (3 : Int32)), (.ref a6)])) _
    refine XS.iloadN X4.here hx rfl (hb hby d4_10) rfl ?_
    show Steps p.tables e below (T4.setTop (mkF m 11 #[.val (.ref a1), .val (.int (2 : Int32))] [(.int (2 : Int32)), (.int (3 : Int32)), (.ref a6)])) _
    refine XS.sipush X4.here hx rfl (hb hby d4_11) ?_
    show Steps p.tables e below (T4.setTop (mkF m 14 #[.val (.ref a1), .val (.int (2 : Int32))] [(.int (32767 : Int32)), (.int (2 : Int32)), (.int (3 : Int32)), (.ref a6)])) _
    refine XS.iand X4.here hx rfl (hb hby d4_14) rfl ?_
    show Steps p.tables e below (T4.setTop (mkF m 15 #[.val (.ref a1), .val (.int (2 : Int32))] [(.int ((2 : Int32) &&& (32767 : Int32))), (.int (3 : Int32)), (.ref a6)])) _
    rw [show ((2 : Int32) &&& (32767 : Int32)) = (2 : Int32) from by decide]
    show Steps p.tables e below (T4.setTop (mkF m 15 #[.val (.ref a1), .val (.int (2 : Int32))] [(.int (2 : Int32)), (.int (3 : Int32)), (.ref a6)])) _
    refine XS.imul X4.here hx rfl (hb hby d4_15) rfl ?_
    show Steps p.tables e below (T4.setTop (mkF m 16 #[.val (.ref a1), .val (.int (2 : Int32))] [(.int ((3 : Int32) * (2 : Int32))), (.ref a6)])) _
    rw [show ((3 : Int32) * (2 : Int32)) = (6 : Int32) from by decide]
    show Steps p.tables e below (T4.setTop (mkF m 16 #[.val (.ref a1), .val (.int (2 : Int32))] [(.int (6 : Int32)), (.ref a6)])) _
    refine XS.iconst X4.here hx rfl (hb hby d4_16) ?_
    show Steps p.tables e below (T4.setTop (mkF m 17 #[.val (.ref a1), .val (.int (2 : Int32))] [(.int (1 : Int32)), (.int (6 : Int32)), (.ref a6)])) _
    refine XS.iadd X4.here hx rfl (hb hby d4_17) rfl ?_
    show Steps p.tables e below (T4.setTop (mkF m 18 #[.val (.ref a1), .val (.int (2 : Int32))] [(.int ((6 : Int32) + (1 : Int32))), (.ref a6)])) _
    rw [show ((6 : Int32) + (1 : Int32)) = (7 : Int32) from by decide]
    show Steps p.tables e below (T4.setTop (mkF m 18 #[.val (.ref a1), .val (.int (2 : Int32))] [(.int (7 : Int32)), (.ref a6)])) _
    refine X4.iaload hx (j := (7 : Int32)) (v := (.int p17)) (by rw [e4]; exact Ar20.1) (State.isArrayOf_alike hZ.alike Ar20.2.1) Ar20.2.2 hin20 hat20 (g := (mkF m 18 #[.val (.ref a1), .val (.int (2 : Int32))] [(.int (7 : Int32)), (.ref a6)])) rfl rfl (hb hby d4_18) _ ?_
    show Steps p.tables e below (T4.setTop (mkF m 19 #[.val (.ref a1), .val (.int (2 : Int32))] [(.int p17)])) _
    exact retI X4 hx Bd.returns (hb hby d4_19) hr
  · show Qrm4_3 Z a1 a2 k5 a6 k9 p10 p11 p12 p13 p14 p15 p16 p17 p18 h0 n0 _ T4.heap _
    rw [e4]
    exact ⟨rfl, N0, rfl⟩
theorem ef_0_IIIIII (m : MethodId) (x0 : Int32) (x1 : Int32) (x2 : Int32) (x3 : Int32) (x4 : Int32) (x5 : Int32) : entryFrame m #[(.int x0), (.int x1), (.int x2), (.int x3), (.int x4), (.int x5)] maxLocals = mkF m 0 #[.val (.int x0), .val (.int x1), .val (.int x2), .val (.int x3), .val (.int x4), .val (.int x5), .unset, .unset] [] := by first | (simp [entryFrame, mkF, argsToLocals, Value.category, maxLocals]; done) | rfl
theorem pn_4 : plainName "com/example/rokin/rokin/store/TripleColumnsPredicatePinLaw" = true := by first | (simp [plainName, overriddenIn]; done) | decide +kernel
def Qrm0 (Z : State) (p1 : Int32) (p2 : Int32) (p3 : Int32) (p4 : Int32) (p5 : Int32) (p6 : Int32) (h0 : Heap) (n0 : Nat) (v : Option Value) (h : Heap) (L : List Loc) : Prop := v = some (.int (1 : Int32)) ∧ Fr n0 L
set_option maxRecDepth 65536 in
set_option maxHeartbeats 40000000 in
theorem rm0 (l : Launch) (Z : State) (a0 : Array Value) (hw : ∀ d ∈ tables_1, d.before a0 Z = true) (ws : List Jvm.Cond) (p1 : Int32) (p2 : Int32) (p3 : Int32) (p4 : Int32) (p5 : Int32) (p6 : Int32) (h0 : Heap) (n0 : Nat) (O0 : Old Z n0 h0) :
    MetFree l x (head1 (Jvm.Cond.code x code maxLocals ret :: ws) room_1) (fun a U => a = #[(.int p1), (.int p2), (.int p3), (.int p4), (.int p5), (.int p6)] ∧ Z.Warmed39 U.vm ∧ U.heap = h0) (fun _ _ _ _ _ => True) (fun _ U o U' => ∃ v L, o = .returned v ∧ Qrm0 Z p1 p2 p3 p4 p5 p6 h0 n0 v U'.heap L ∧ FrameEnd U o U' L room_1.cells room_1.slots) := by
  refine MetFree.of_bodySF (plainFor_of_name pn_4) hisR ?_
  intro p e s m args below meth c s₁ Bd hml0 hP hK
  obtain ⟨rfl, hZ, hh⟩ := hP
  have hx := Bd.exec
  have hby := Bd.bytes
  have hml : c.maxLocals = 8 := hml0
  have hown : s.vm.findClass "com/example/rokin/rokin/store/TripleColumnsPredicatePinLaw" = some m.cls := findClass_of_methodNamed Bd.named
  have hnm := (name_of_methodNamed Bd.named Bd.method).1
  have X0 : Stand p l e room_1 s m #[(.int p1), (.int p2), (.int p3), (.int p4), (.int p5), (.int p6)] below meth c s₁ [] 0 0 := Stand.of_body Bd
  have e0 : s₁.heap = h0 := by rw [← hh, Bd.state]; rfl
  have N0 := Fr.nil n0
  have pre0 : ∀ t, Steps p.tables e below (s₁.setTop (mkF m 0 #[.val (.int p1), .val (.int p2), .val (.int p3), .val (.int p4), .val (.int p5), .val (.int p6), .unset, .unset] [])) t → Steps p.tables e below (s₁.setTop (entryFrame m #[(.int p1), (.int p2), (.int p3), (.int p4), (.int p5), (.int p6)] maxLocals)) t := fun t k => castTop (ef_0_IIIIII m p1 p2 p3 p4 p5 p6) k
  obtain ⟨T7, h7, X7, e7, E7, A7, D7, U7, st7⟩ := newO X0 hx hZ hown (hw _ (List.mem_of_getElem? (i := 0) rfl)) (hw _ (List.mem_of_getElem? (i := 1) rfl)) (hw _ (List.mem_of_getElem? (i := 2) rfl)) e0 (g := (mkF m 0 #[.val (.int p1), .val (.int p2), .val (.int p3), .val (.int p4), .val (.int p5), .val (.int p6), .unset, .unset] [])) rfl (hb hby at_0) (by decide) (by decide)
  obtain ⟨b7, g7⟩ : ∃ z, z = h0.size := ⟨_, rfl⟩
  rw [← g7] at A7 D7 U7 st7
  have g_b7 : n0 ≤ b7 := own_born O0 (own_eqle g7)
  have sz_b7 : h0.size ≤ b7 := Nat.le_trans (Keep.refl h0 []).1 (own_eqle g7)
  have K7 : Keep h0 h7 [] := (Keep.refl h0 []).ext E7
  have O7 : Old Z n0 h7 := O0.ext E7
  have F7_pages : Fld Z h7 b7 "com/example/rokin/rokin/store/TripleColumns" "pages" "[[I" .null := D7 (Or.inl (hw _ (List.mem_of_getElem? (i := 14) rfl))) (ty := (.array (.array .int))) (by decide)
  have F7_size : Fld Z h7 b7 "com/example/rokin/rokin/store/TripleColumns" "size" "I" (.int (0 : Int32)) := D7 (Or.inl (hw _ (List.mem_of_getElem? (i := 21) rfl))) (ty := .int) (by decide)
  obtain ⟨_, _, ⟨T8, L8, k8, n8⟩, -, X8, ⟨Lc8, hQ8, l8, y8, z8⟩, st8⟩ := X7.specialBack hx (y := (⟨"com/example/rokin/rokin/store/TripleColumns", "<init>", "()V"⟩ : MethodName)) rfl hown (mvT hZ (hw _ (List.mem_of_getElem? (i := 3) rfl))) (mvT hZ (hw _ (List.mem_of_getElem? (i := 4) rfl))) (mvT hZ (hw _ (List.mem_of_getElem? (i := 5) rfl))) (by decide) (backOf (W := 1) (rm1 l Z a0 hw [] b7 h7 n0 O7 A7 F7_pages g_b7 F7_size) hZ (hw _ (List.mem_of_getElem? (i := 5) rfl)) (hw _ (List.mem_of_getElem? (i := 2) rfl)) (by decide) (by decide)) (g := (mkF m 4 #[.val (.int p1), .val (.int p2), .val (.int p3), .val (.int p4), .val (.int p5), .val (.int p6), .unset, .unset] [(.ref b7), (.ref b7)])) rfl (by rw [hml]; rfl) (Steps.refl _) (a := b7) (argsL := []) (rest := [(.ref b7)]) (lenOf pd_1 rfl) rfl (by show 2 * 0 + _ ≤ _; exact Nat.le_of_eq rfl) (hb hby at_4) (fun _ _ => ⟨rfl, e7, (by decide : 1 + 2 ≤ _), (by decide : 2 + 3073 ≤ _)⟩)
  dsimp only [Pt.U, Pt.locs, Pt.cells, Pt.slots] at X8 l8 y8 z8 st8 hQ8
  subst l8 y8 z8
  obtain ⟨b9, b10, k11, k12, rfl, Nq8, K8, sq8_b9, sq8_b10, P8_0, P8_1, P8_2, P8_3, P8_4, P8_5, P8_6, P8_7, P8_8⟩ := hQ8
  have N8 := Fr.app N0 Nq8
  have ne13 : b7 ≠ b9 := (own_ltn A7.lt sq8_b9)
  have g_b9 : n0 ≤ b9 := own_born O7 sq8_b9
  have sz_b9 : h0.size ≤ b9 := Nat.le_trans K7.1 sq8_b9
  have ne14 : b7 ≠ b10 := (own_ltn A7.lt sq8_b10)
  have g_b10 : n0 ≤ b10 := own_born O7 sq8_b10
  have sz_b10 : h0.size ≤ b10 := Nat.le_trans K7.1 sq8_b10
  have KK8 : Keep h0 T8.heap [] := Keep.trans (h := h7) K7 K8 (allS (Or.inr sz_b7) all0)
  have O8 : Old Z n0 T8.heap := O7.keep K8 (allS g_b7 all0)
  obtain ⟨cq15, kq15, q15a, q15b, q15c⟩ := isOf hZ rfl P8_1
  obtain ⟨_, _, ⟨T15, L15, k15, n15⟩, -, X15, ⟨Lc15, hQ15, l15, y15, z15⟩, st15⟩ := X8.virtualBack hx (y := (⟨"com/example/rokin/rokin/store/TripleColumns", "add", "(III)I"⟩ : MethodName)) (z := (⟨"com/example/rokin/rokin/store/TripleColumns", "add", "(III)I"⟩ : MethodName)) hown (mvT hZ (hw _ (List.mem_of_getElem? (i := 15) rfl))) (mvT hZ (hw _ (List.mem_of_getElem? (i := 16) rfl))) (notFace_of_selects (args := #[]) (mvT hZ (hw _ (List.mem_of_getElem? (i := 18) rfl)))) (mvT hZ (hw _ (List.mem_of_getElem? (i := 18) rfl))) (mvT hZ (hw _ (List.mem_of_getElem? (i := 17) rfl))) (by decide) (backOf (W := 0) (rm3 l Z a0 hw [] b7 p1 p2 p3 b9 k11 b10 k12 T8.heap n0 O8 P8_3 P8_2 P8_6 P8_8 g_b10 P8_7 ne14 P8_0 P8_1 g_b7) hZ (hw _ (List.mem_of_getElem? (i := 19) rfl)) (hw _ (List.mem_of_getElem? (i := 2) rfl)) (by decide) (by decide)) q15a q15c (g := (mkF m 14 #[.val (.int p1), .val (.int p2), .val (.int p3), .val (.int p4), .val (.int p5), .val (.int p6), .val (.ref b7), .unset] [(.int p3), (.int p2), (.int p1), (.ref b7)])) rfl (by rw [hml]; rfl) (Steps.refl _) (argsL := [(.int p1), (.int p2), (.int p3)]) (rest := []) (lenOf pd_2 rfl) rfl (by show 2 * 0 + _ ≤ _; exact Nat.le_of_eq rfl) (hb hby at_14) (fun _ _ => ⟨rfl, rfl, (by decide : 3 + 0 ≤ _), (by decide : 3075 + 0 ≤ _)⟩)
  dsimp only [Pt.U, Pt.locs, Pt.cells, Pt.slots] at X15 l15 y15 z15 st15 hQ15
  subst l15 y15 z15
  obtain ⟨rfl, Nq15, K15, P15_0, P15_1, P15_2, P15_3, P15_4⟩ := hQ15
  have N15 := Fr.app N8 Nq15
  have KK15 : Keep h0 T15.heap [] := Keep.trans (h := T8.heap) KK8 K15 (allS (Or.inr sz_b10) (allS (Or.inr sz_b7) all0))
  have O15 : Old Z n0 T15.heap := O8.keep K15 (allS g_b10 (allS g_b7 all0))
  have f16 : Arv Z T15.heap b9 k11 (.array .int) (1 : Int32) [(.ref b10)] .null := (P8_6.keep K15 (ninS P8_0 (ninS (Ne.symm ne13) nin0)))
  obtain ⟨cq17, kq17, q17a, q17b, q17c⟩ := isOf hZ rfl P15_4
  obtain ⟨_, _, ⟨T17, L17, k17, n17⟩, -, X17, ⟨Lc17, hQ17, l17, y17, z17⟩, st17⟩ := X15.virtualBack hx (y := (⟨"com/example/rokin/rokin/store/TripleColumns", "predicate", "(I)I"⟩ : MethodName)) (z := (⟨"com/example/rokin/rokin/store/TripleColumns", "predicate", "(I)I"⟩ : MethodName)) hown (mvT hZ (hw _ (List.mem_of_getElem? (i := 23) rfl))) (mvT hZ (hw _ (List.mem_of_getElem? (i := 24) rfl))) (notFace_of_selects (args := #[]) (mvT hZ (hw _ (List.mem_of_getElem? (i := 26) rfl)))) (mvT hZ (hw _ (List.mem_of_getElem? (i := 26) rfl))) (mvT hZ (hw _ (List.mem_of_getElem? (i := 25) rfl))) (by decide) (backOf (W := 0) (rm4 l Z a0 hw [] b7 b9 k11 b10 k12 p1 p2 p3 T15.heap n0 O15 P15_3 f16 P15_0) hZ (hw _ (List.mem_of_getElem? (i := 27) rfl)) (hw _ (List.mem_of_getElem? (i := 2) rfl)) (by decide) (by decide)) q17a q17c (g := (mkF m 21 #[.val (.int p1), .val (.int p2), .val (.int p3), .val (.int p4), .val (.int p5), .val (.int p6), .val (.ref b7), .unset] [(.int (0 : Int32)), (.ref b7)])) rfl (by rw [hml]; rfl) (Steps.refl _) (argsL := [(.int (0 : Int32))]) (rest := []) (lenOf pd_3 rfl) rfl (by show 2 * 0 + _ ≤ _; exact Nat.le_of_eq rfl) (hb hby at_21) (fun _ _ => ⟨rfl, rfl, (by decide : 3 + 0 ≤ _), (by decide : 3075 + 0 ≤ _)⟩)
  dsimp only [Pt.U, Pt.locs, Pt.cells, Pt.slots] at X17 l17 y17 z17 st17 hQ17
  subst l17 y17 z17
  obtain ⟨rfl, Nq17, e17⟩ := hQ17
  have N17 := Fr.app N15 Nq17
  obtain ⟨cq18, kq18, q18a, q18b, q18c⟩ := isOf hZ e17 P15_4
  obtain ⟨_, _, ⟨T18, L18, k18, n18⟩, -, X18, ⟨Lc18, hQ18, l18, y18, z18⟩, st18⟩ := X17.virtualBack hx (y := (⟨"com/example/rokin/rokin/store/TripleColumns", "add", "(III)I"⟩ : MethodName)) (z := (⟨"com/example/rokin/rokin/store/TripleColumns", "add", "(III)I"⟩ : MethodName)) hown (mvT hZ (hw _ (List.mem_of_getElem? (i := 15) rfl))) (mvT hZ (hw _ (List.mem_of_getElem? (i := 16) rfl))) (notFace_of_selects (args := #[]) (mvT hZ (hw _ (List.mem_of_getElem? (i := 18) rfl)))) (mvT hZ (hw _ (List.mem_of_getElem? (i := 18) rfl))) (mvT hZ (hw _ (List.mem_of_getElem? (i := 17) rfl))) (by decide) (backOf (W := 0) (rm3_1 l Z a0 hw [] b7 p4 p5 p6 b9 k11 b10 k12 p1 p2 p3 T15.heap n0 O15 P15_2 P15_3 f16 P15_0 g_b10 P15_1 ne14 P8_0 P15_4 g_b7) hZ (hw _ (List.mem_of_getElem? (i := 19) rfl)) (hw _ (List.mem_of_getElem? (i := 2) rfl)) (by decide) (by decide)) q18a q18c (g := (mkF m 42 #[.val (.int p1), .val (.int p2), .val (.int p3), .val (.int p4), .val (.int p5), .val (.int p6), .val (.ref b7), .val (.int (1 : Int32))] [(.int p6), (.int p5), (.int p4), (.ref b7)])) rfl (by rw [hml]; rfl) (Steps.refl _) (argsL := [(.int p4), (.int p5), (.int p6)]) (rest := []) (lenOf pd_2 rfl) rfl (by show 2 * 0 + _ ≤ _; exact Nat.le_of_eq rfl) (hb hby at_42) (fun _ _ => ⟨rfl, e17, (by decide : 3 + 0 ≤ _), (by decide : 3075 + 0 ≤ _)⟩)
  dsimp only [Pt.U, Pt.locs, Pt.cells, Pt.slots] at X18 l18 y18 z18 st18 hQ18
  subst l18 y18 z18
  obtain ⟨rfl, Nq18, K18, P18_0, P18_1, P18_2, P18_3, P18_4⟩ := hQ18
  have N18 := Fr.app N17 Nq18
  have KK18 : Keep h0 T18.heap [] := Keep.trans (h := T15.heap) KK15 K18 (allS (Or.inr sz_b10) (allS (Or.inr sz_b7) all0))
  have O18 : Old Z n0 T18.heap := O15.keep K18 (allS g_b10 (allS g_b7 all0))
  have f19 : Arv Z T18.heap b9 k11 (.array .int) (1 : Int32) [(.ref b10)] .null := (f16.keep K18 (ninS P8_0 (ninS (Ne.symm ne13) nin0)))
  obtain ⟨cq20, kq20, q20a, q20b, q20c⟩ := isOf hZ rfl P18_4
  obtain ⟨_, _, ⟨T20, L20, k20, n20⟩, -, X20, ⟨Lc20, hQ20, l20, y20, z20⟩, st20⟩ := X18.virtualBack hx (y := (⟨"com/example/rokin/rokin/store/TripleColumns", "add", "(III)I"⟩ : MethodName)) (z := (⟨"com/example/rokin/rokin/store/TripleColumns", "add", "(III)I"⟩ : MethodName)) hown (mvT hZ (hw _ (List.mem_of_getElem? (i := 15) rfl))) (mvT hZ (hw _ (List.mem_of_getElem? (i := 16) rfl))) (notFace_of_selects (args := #[]) (mvT hZ (hw _ (List.mem_of_getElem? (i := 18) rfl)))) (mvT hZ (hw _ (List.mem_of_getElem? (i := 18) rfl))) (mvT hZ (hw _ (List.mem_of_getElem? (i := 17) rfl))) (by decide) (backOf (W := 0) (rm3_2 l Z a0 hw [] b7 p6 (p1 + p4) p2 b9 k11 b10 k12 p1 p2 p3 p4 p5 p6 T18.heap n0 O18 P18_2 P18_3 f19 P18_0 g_b10 P18_1 ne14 P8_0 P18_4 g_b7) hZ (hw _ (List.mem_of_getElem? (i := 19) rfl)) (hw _ (List.mem_of_getElem? (i := 2) rfl)) (by decide) (by decide)) q20a q20c (g := (mkF m 54 #[.val (.int p1), .val (.int p2), .val (.int p3), .val (.int p4), .val (.int p5), .val (.int p6), .val (.ref b7), .val (.int (1 : Int32))] [(.int p2), (.int (p1 + p4)), (.int p6), (.ref b7)])) rfl (by rw [hml]; rfl) (Steps.refl _) (argsL := [(.int p6), (.int (p1 + p4)), (.int p2)]) (rest := []) (lenOf pd_2 rfl) rfl (by show 2 * 0 + _ ≤ _; exact Nat.le_of_eq rfl) (hb hby at_54) (fun _ _ => ⟨rfl, rfl, (by decide : 3 + 0 ≤ _), (by decide : 3075 + 0 ≤ _)⟩)
  dsimp only [Pt.U, Pt.locs, Pt.cells, Pt.slots] at X20 l20 y20 z20 st20 hQ20
  subst l20 y20 z20
  obtain ⟨rfl, Nq20, K20, P20_0, P20_1, P20_2, P20_3, P20_4⟩ := hQ20
  have N20 := Fr.app N18 Nq20
  have KK20 : Keep h0 T20.heap [] := Keep.trans (h := T18.heap) KK18 K20 (allS (Or.inr sz_b10) (allS (Or.inr sz_b7) all0))
  have O20 : Old Z n0 T20.heap := O18.keep K20 (allS g_b10 (allS g_b7 all0))
  have f21 : Arv Z T20.heap b9 k11 (.array .int) (1 : Int32) [(.ref b10)] .null := (f19.keep K20 (ninS P8_0 (ninS (Ne.symm ne13) nin0)))
  obtain ⟨cq22, kq22, q22a, q22b, q22c⟩ := isOf hZ rfl P20_4
  obtain ⟨_, _, ⟨T22, L22, k22, n22⟩, -, X22, ⟨Lc22, hQ22, l22, y22, z22⟩, st22⟩ := X20.virtualBack hx (y := (⟨"com/example/rokin/rokin/store/TripleColumns", "predicate", "(I)I"⟩ : MethodName)) (z := (⟨"com/example/rokin/rokin/store/TripleColumns", "predicate", "(I)I"⟩ : MethodName)) hown (mvT hZ (hw _ (List.mem_of_getElem? (i := 23) rfl))) (mvT hZ (hw _ (List.mem_of_getElem? (i := 24) rfl))) (notFace_of_selects (args := #[]) (mvT hZ (hw _ (List.mem_of_getElem? (i := 26) rfl)))) (mvT hZ (hw _ (List.mem_of_getElem? (i := 26) rfl))) (mvT hZ (hw _ (List.mem_of_getElem? (i := 25) rfl))) (by decide) (backOf (W := 0) (rm4_1 l Z a0 hw [] b7 b9 k11 b10 k12 p1 p2 p3 p4 p5 p6 p6 (p1 + p4) p2 T20.heap n0 O20 P20_3 f21 P20_0) hZ (hw _ (List.mem_of_getElem? (i := 27) rfl)) (hw _ (List.mem_of_getElem? (i := 2) rfl)) (by decide) (by decide)) q22a q22c (g := (mkF m 66 #[.val (.int p1), .val (.int p2), .val (.int p3), .val (.int p4), .val (.int p5), .val (.int p6), .val (.ref b7), .val (.int (1 : Int32))] [(.int (0 : Int32)), (.ref b7)])) rfl (by rw [hml]; rfl) (Steps.refl _) (argsL := [(.int (0 : Int32))]) (rest := []) (lenOf pd_3 rfl) rfl (by show 2 * 0 + _ ≤ _; exact Nat.le_of_eq rfl) (hb hby at_66) (fun _ _ => ⟨rfl, rfl, (by decide : 3 + 0 ≤ _), (by decide : 3075 + 0 ≤ _)⟩)
  dsimp only [Pt.U, Pt.locs, Pt.cells, Pt.slots] at X22 l22 y22 z22 st22 hQ22
  subst l22 y22 z22
  obtain ⟨rfl, Nq22, e22⟩ := hQ22
  have N22 := Fr.app N20 Nq22
  obtain ⟨cq23, kq23, q23a, q23b, q23c⟩ := isOf hZ e22 P20_4
  obtain ⟨_, _, ⟨T23, L23, k23, n23⟩, -, X23, ⟨Lc23, hQ23, l23, y23, z23⟩, st23⟩ := X22.virtualBack hx (y := (⟨"com/example/rokin/rokin/store/TripleColumns", "predicate", "(I)I"⟩ : MethodName)) (z := (⟨"com/example/rokin/rokin/store/TripleColumns", "predicate", "(I)I"⟩ : MethodName)) hown (mvT hZ (hw _ (List.mem_of_getElem? (i := 23) rfl))) (mvT hZ (hw _ (List.mem_of_getElem? (i := 24) rfl))) (notFace_of_selects (args := #[]) (mvT hZ (hw _ (List.mem_of_getElem? (i := 26) rfl)))) (mvT hZ (hw _ (List.mem_of_getElem? (i := 26) rfl))) (mvT hZ (hw _ (List.mem_of_getElem? (i := 25) rfl))) (by decide) (backOf (W := 0) (rm4_2 l Z a0 hw [] b7 b9 k11 b10 k12 p1 p2 p3 p4 p5 p6 p6 (p1 + p4) p2 T20.heap n0 O20 P20_3 f21 P20_0) hZ (hw _ (List.mem_of_getElem? (i := 27) rfl)) (hw _ (List.mem_of_getElem? (i := 2) rfl)) (by decide) (by decide)) q23a q23c (g := (mkF m 76 #[.val (.int p1), .val (.int p2), .val (.int p3), .val (.int p4), .val (.int p5), .val (.int p6), .val (.ref b7), .val (.int (1 : Int32))] [(.int (1 : Int32)), (.ref b7)])) rfl (by rw [hml]; rfl) (Steps.refl _) (argsL := [(.int (1 : Int32))]) (rest := []) (lenOf pd_3 rfl) rfl (by show 2 * 0 + _ ≤ _; exact Nat.le_of_eq rfl) (hb hby at_76) (fun _ _ => ⟨rfl, e22, (by decide : 3 + 0 ≤ _), (by decide : 3075 + 0 ≤ _)⟩)
  dsimp only [Pt.U, Pt.locs, Pt.cells, Pt.slots] at X23 l23 y23 z23 st23 hQ23
  subst l23 y23 z23
  obtain ⟨rfl, Nq23, e23⟩ := hQ23
  have N23 := Fr.app N22 Nq23
  obtain ⟨cq24, kq24, q24a, q24b, q24c⟩ := isOf hZ e23 P20_4
  obtain ⟨_, _, ⟨T24, L24, k24, n24⟩, -, X24, ⟨Lc24, hQ24, l24, y24, z24⟩, st24⟩ := X23.virtualBack hx (y := (⟨"com/example/rokin/rokin/store/TripleColumns", "predicate", "(I)I"⟩ : MethodName)) (z := (⟨"com/example/rokin/rokin/store/TripleColumns", "predicate", "(I)I"⟩ : MethodName)) hown (mvT hZ (hw _ (List.mem_of_getElem? (i := 23) rfl))) (mvT hZ (hw _ (List.mem_of_getElem? (i := 24) rfl))) (notFace_of_selects (args := #[]) (mvT hZ (hw _ (List.mem_of_getElem? (i := 26) rfl)))) (mvT hZ (hw _ (List.mem_of_getElem? (i := 26) rfl))) (mvT hZ (hw _ (List.mem_of_getElem? (i := 25) rfl))) (by decide) (backOf (W := 0) (rm4_3 l Z a0 hw [] b7 b9 k11 b10 k12 p1 p2 p3 p4 p5 p6 p6 (p1 + p4) p2 T20.heap n0 O20 P20_3 f21 P20_0) hZ (hw _ (List.mem_of_getElem? (i := 27) rfl)) (hw _ (List.mem_of_getElem? (i := 2) rfl)) (by decide) (by decide)) q24a q24c (g := (mkF m 87 #[.val (.int p1), .val (.int p2), .val (.int p3), .val (.int p4), .val (.int p5), .val (.int p6), .val (.ref b7), .val (.int (1 : Int32))] [(.int (2 : Int32)), (.ref b7)])) rfl (by rw [hml]; rfl) (Steps.refl _) (argsL := [(.int (2 : Int32))]) (rest := []) (lenOf pd_3 rfl) rfl (by show 2 * 0 + _ ≤ _; exact Nat.le_of_eq rfl) (hb hby at_87) (fun _ _ => ⟨rfl, e23, (by decide : 3 + 0 ≤ _), (by decide : 3075 + 0 ≤ _)⟩)
  dsimp only [Pt.U, Pt.locs, Pt.cells, Pt.slots] at X24 l24 y24 z24 st24 hQ24
  subst l24 y24 z24
  obtain ⟨rfl, Nq24, e24⟩ := hQ24
  have N24 := Fr.app N23 Nq24
  obtain ⟨fs, hr, hrun, hended, hW, hsame⟩ := X24.leave (v := some (.int (1 : Int32))) (fun h => by rw [Bd.returns] at h; cases h)
  refine ⟨_, _, pre0 _ ?_, hrun, hended, _, _, rfl, ?_, ⟨_, rfl⟩, hW, hsame.mono (by decide) (by decide)⟩
  · show Steps p.tables e below (s₁.setTop (mkF m 0 #[.val (.int p1), .val (.int p2), .val (.int p3), .val (.int p4), .val (.int p5), .val (.int p6), .unset, .unset] [])) _
    refine st7 _ ?_
    show Steps p.tables e below (T7.setTop (mkF m 3 #[.val (.int p1), .val (.int p2), .val (.int p3), .val (.int p4), .val (.int p5), .val (.int p6), .unset, .unset] [(.ref b7)])) _
    refine XS.dup X7.here hx rfl (hb hby at_3) rfl rfl ?_
    show Steps p.tables e below (T7.setTop (mkF m 4 #[.val (.int p1), .val (.int p2), .val (.int p3), .val (.int p4), .val (.int p5), .val (.int p6), .unset, .unset] [(.ref b7), (.ref b7)])) _
    refine st8.trans ?_
    show Steps p.tables e below (T8.setTop (mkF m 7 #[.val (.int p1), .val (.int p2), .val (.int p3), .val (.int p4), .val (.int p5), .val (.int p6), .unset, .unset] [(.ref b7)])) _
    refine XS.astore X8.here hx rfl (hb hby at_7) rfl rfl (l' := #[.val (.int p1), .val (.int p2), .val (.int p3), .val (.int p4), .val (.int p5), .val (.int p6), .val (.ref b7), .unset]) rfl ?_
    show Steps p.tables e below (T8.setTop (mkF m 9 #[.val (.int p1), .val (.int p2), .val (.int p3), .val (.int p4), .val (.int p5), .val (.int p6), .val (.ref b7), .unset] [])) _
    refine XS.aload X8.here hx rfl (hb hby at_9) rfl rfl ?_
    show Steps p.tables e below (T8.setTop (mkF m 11 #[.val (.int p1), .val (.int p2), .val (.int p3), .val (.int p4), .val (.int p5), .val (.int p6), .val (.ref b7), .unset] [(.ref b7)])) _
    refine XS.iloadN X8.here hx rfl (hb hby at_11) rfl ?_
    show Steps p.tables e below (T8.setTop (mkF m 12 #[.val (.int p1), .val (.int p2), .val (.int p3), .val (.int p4), .val (.int p5), .val (.int p6), .val (.ref b7), .unset] [(.int p1), (.ref b7)])) _
    refine XS.iloadN X8.here hx rfl (hb hby at_12) rfl ?_
    show Steps p.tables e below (T8.setTop (mkF m 13 #[.val (.int p1), .val (.int p2), .val (.int p3), .val (.int p4), .val (.int p5), .val (.int p6), .val (.ref b7), .unset] [(.int p2), (.int p1), (.ref b7)])) _
    refine XS.iloadN X8.here hx rfl (hb hby at_13) rfl ?_
    show Steps p.tables e below (T8.setTop (mkF m 14 #[.val (.int p1), .val (.int p2), .val (.int p3), .val (.int p4), .val (.int p5), .val (.int p6), .val (.ref b7), .unset] [(.int p3), (.int p2), (.int p1), (.ref b7)])) _
    refine st15.trans ?_
    show Steps p.tables e below (T15.setTop (mkF m 17 #[.val (.int p1), .val (.int p2), .val (.int p3), .val (.int p4), .val (.int p5), .val (.int p6), .val (.ref b7), .unset] [(.int (0 : Int32))])) _
    refine XS.pop X15.here hx rfl (hb hby at_17) rfl rfl ?_
    show Steps p.tables e below (T15.setTop (mkF m 18 #[.val (.int p1), .val (.int p2), .val (.int p3), .val (.int p4), .val (.int p5), .val (.int p6), .val (.ref b7), .unset] [])) _
    refine XS.aload X15.here hx rfl (hb hby at_18) rfl rfl ?_
    show Steps p.tables e below (T15.setTop (mkF m 20 #[.val (.int p1), .val (.int p2), .val (.int p3), .val (.int p4), .val (.int p5), .val (.int p6), .val (.ref b7), .unset] [(.ref b7)])) _
    refine XS.iconst X15.here hx rfl (hb hby at_20) ?_
    show Steps p.tables e below (T15.setTop (mkF m 21 #[.val (.int p1), .val (.int p2), .val (.int p3), .val (.int p4), .val (.int p5), .val (.int p6), .val (.ref b7), .unset] [(.int (0 : Int32)), (.ref b7)])) _
    refine st17.trans ?_
    show Steps p.tables e below (T17.setTop (mkF m 24 #[.val (.int p1), .val (.int p2), .val (.int p3), .val (.int p4), .val (.int p5), .val (.int p6), .val (.ref b7), .unset] [(.int p2)])) _
    refine XS.iloadN X17.here hx rfl (hb hby at_24) rfl ?_
    show Steps p.tables e below (T17.setTop (mkF m 25 #[.val (.int p1), .val (.int p2), .val (.int p3), .val (.int p4), .val (.int p5), .val (.int p6), .val (.ref b7), .unset] [(.int p2), (.int p2)])) _
    refine XS.icmpNo X17.here hx rfl (hb hby at_25) rfl (teq (rfl : p2 = p2)).2 ?_
    show Steps p.tables e below (T17.setTop (mkF m 28 #[.val (.int p1), .val (.int p2), .val (.int p3), .val (.int p4), .val (.int p5), .val (.int p6), .val (.ref b7), .unset] [])) _
    refine XS.iconst X17.here hx rfl (hb hby at_28) ?_
    show Steps p.tables e below (T17.setTop (mkF m 29 #[.val (.int p1), .val (.int p2), .val (.int p3), .val (.int p4), .val (.int p5), .val (.int p6), .val (.ref b7), .unset] [(.int (1 : Int32))])) _
    refine XS.goto X17.here hx rfl (pc0 := 29) (pc' := 33) rfl (hb hby at_29) (by decide) (by decide) ?_
    show Steps p.tables e below (T17.setTop (mkF m 33 #[.val (.int p1), .val (.int p2), .val (.int p3), .val (.int p4), .val (.int p5), .val (.int p6), .val (.ref b7), .unset] [(.int (1 : Int32))])) _
    refine XS.istore X17.here hx rfl (hb hby at_33) rfl (l' := #[.val (.int p1), .val (.int p2), .val (.int p3), .val (.int p4), .val (.int p5), .val (.int p6), .val (.ref b7), .val (.int (1 : Int32))]) rfl ?_
    show Steps p.tables e below (T17.setTop (mkF m 35 #[.val (.int p1), .val (.int p2), .val (.int p3), .val (.int p4), .val (.int p5), .val (.int p6), .val (.ref b7), .val (.int (1 : Int32))] [])) _
    refine XS.aload X17.here hx rfl (hb hby at_35) rfl rfl ?_
    show Steps p.tables e below (T17.setTop (mkF m 37 #[.val (.int p1), .val (.int p2), .val (.int p3), .val (.int p4), .val (.int p5), .val (.int p6), .val (.ref b7), .val (.int (1 : Int32))] [(.ref b7)])) _
    refine XS.iloadN X17.here hx rfl (hb hby at_37) rfl ?_
    show Steps p.tables e below (T17.setTop (mkF m 38 #[.val (.int p1), .val (.int p2), .val (.int p3), .val (.int p4), .val (.int p5), .val (.int p6), .val (.ref b7), .val (.int (1 : Int32))] [(.int p4), (.ref b7)])) _
    refine XS.iload X17.here hx rfl (hb hby at_38) rfl ?_
    show Steps p.tables e below (T17.setTop (mkF m 40 #[.val (.int p1), .val (.int p2), .val (.int p3), .val (.int p4), .val (.int p5), .val (.int p6), .val (.ref b7), .val (.int (1 : Int32))] [(.int p5), (.int p4), (.ref b7)])) _
    refine XS.iload X17.here hx rfl (hb hby at_40) rfl ?_
    show Steps p.tables e below (T17.setTop (mkF m 42 #[.val (.int p1), .val (.int p2), .val (.int p3), .val (.int p4), .val (.int p5), .val (.int p6), .val (.ref b7), .val (.int (1 : Int32))] [(.int p6), (.int p5), (.int p4), (.ref b7)])) _
    refine st18.trans ?_
    show Steps p.tables e below (T18.setTop (mkF m 45 #[.val (.int p1), .val (.int p2), .val (.int p3), .val (.int p4), .val (.int p5), .val (.int p6), .val (.ref b7), .val (.int (1 : Int32))] [(.int (1 : Int32))])) _
    refine XS.pop X18.here hx rfl (hb hby at_45) rfl rfl ?_
    show Steps p.tables e below (T18.setTop (mkF m 46 #[.val (.int p1), .val (.int p2), .val (.int p3), .val (.int p4), .val (.int p5), .val (.int p6), .val (.ref b7), .val (.int (1 : Int32))] [])) _
    refine XS.aload X18.here hx rfl (hb hby at_46) rfl rfl ?_
    show Steps p.tables e below (T18.setTop (mkF m 48 #[.val (.int p1), .val (.int p2), .val (.int p3), .val (.int p4), .val (.int p5), .val (.int p6), .val (.ref b7), .val (.int (1 : Int32))] [(.ref b7)])) _
    refine XS.iload X18.here hx rfl (hb hby at_48) rfl ?_
    show Steps p.tables e below (T18.setTop (mkF m 50 #[.val (.int p1), .val (.int p2), .val (.int p3), .val (.int p4), .val (.int p5), .val (.int p6), .val (.ref b7), .val (.int (1 : Int32))] [(.int p6), (.ref b7)])) _
    refine XS.iloadN X18.here hx rfl (hb hby at_50) rfl ?_
    show Steps p.tables e below (T18.setTop (mkF m 51 #[.val (.int p1), .val (.int p2), .val (.int p3), .val (.int p4), .val (.int p5), .val (.int p6), .val (.ref b7), .val (.int (1 : Int32))] [(.int p1), (.int p6), (.ref b7)])) _
    refine XS.iloadN X18.here hx rfl (hb hby at_51) rfl ?_
    show Steps p.tables e below (T18.setTop (mkF m 52 #[.val (.int p1), .val (.int p2), .val (.int p3), .val (.int p4), .val (.int p5), .val (.int p6), .val (.ref b7), .val (.int (1 : Int32))] [(.int p4), (.int p1), (.int p6), (.ref b7)])) _
    refine XS.iadd X18.here hx rfl (hb hby at_52) rfl ?_
    show Steps p.tables e below (T18.setTop (mkF m 53 #[.val (.int p1), .val (.int p2), .val (.int p3), .val (.int p4), .val (.int p5), .val (.int p6), .val (.ref b7), .val (.int (1 : Int32))] [(.int (p1 + p4)), (.int p6), (.ref b7)])) _
    refine XS.iloadN X18.here hx rfl (hb hby at_53) rfl ?_
    show Steps p.tables e below (T18.setTop (mkF m 54 #[.val (.int p1), .val (.int p2), .val (.int p3), .val (.int p4), .val (.int p5), .val (.int p6), .val (.ref b7), .val (.int (1 : Int32))] [(.int p2), (.int (p1 + p4)), (.int p6), (.ref b7)])) _
    refine st20.trans ?_
    show Steps p.tables e below (T20.setTop (mkF m 57 #[.val (.int p1), .val (.int p2), .val (.int p3), .val (.int p4), .val (.int p5), .val (.int p6), .val (.ref b7), .val (.int (1 : Int32))] [(.int (2 : Int32))])) _
    refine XS.pop X20.here hx rfl (hb hby at_57) rfl rfl ?_
    show Steps p.tables e below (T20.setTop (mkF m 58 #[.val (.int p1), .val (.int p2), .val (.int p3), .val (.int p4), .val (.int p5), .val (.int p6), .val (.ref b7), .val (.int (1 : Int32))] [])) _
    refine XS.iload X20.here hx rfl (hb hby at_58) rfl ?_
    show Steps p.tables e below (T20.setTop (mkF m 60 #[.val (.int p1), .val (.int p2), .val (.int p3), .val (.int p4), .val (.int p5), .val (.int p6), .val (.ref b7), .val (.int (1 : Int32))] [(.int (1 : Int32))])) _
    refine XS.ifNo X20.here hx rfl (hb hby at_60) rfl ((if0 _ _).trans (feq ((by decide) : ¬ ((1 : Int32) = (0 : Int32)))).1) ?_
    show Steps p.tables e below (T20.setTop (mkF m 63 #[.val (.int p1), .val (.int p2), .val (.int p3), .val (.int p4), .val (.int p5), .val (.int p6), .val (.ref b7), .val (.int (1 : Int32))] [])) _
    refine XS.aload X20.here hx rfl (hb hby at_63) rfl rfl ?_
    show Steps p.tables e below (T20.setTop (mkF m 65 #[.val (.int p1), .val (.int p2), .val (.int p3), .val (.int p4), .val (.int p5), .val (.int p6), .val (.ref b7), .val (.int (1 : Int32))] [(.ref b7)])) _
    refine XS.iconst X20.here hx rfl (hb hby at_65) ?_
    show Steps p.tables e below (T20.setTop (mkF m 66 #[.val (.int p1), .val (.int p2), .val (.int p3), .val (.int p4), .val (.int p5), .val (.int p6), .val (.ref b7), .val (.int (1 : Int32))] [(.int (0 : Int32)), (.ref b7)])) _
    refine st22.trans ?_
    show Steps p.tables e below (T22.setTop (mkF m 69 #[.val (.int p1), .val (.int p2), .val (.int p3), .val (.int p4), .val (.int p5), .val (.int p6), .val (.ref b7), .val (.int (1 : Int32))] [(.int p2)])) _
    refine XS.iloadN X22.here hx rfl (hb hby at_69) rfl ?_
    show Steps p.tables e below (T22.setTop (mkF m 70 #[.val (.int p1), .val (.int p2), .val (.int p3), .val (.int p4), .val (.int p5), .val (.int p6), .val (.ref b7), .val (.int (1 : Int32))] [(.int p2), (.int p2)])) _
    refine XS.icmpNo X22.here hx rfl (hb hby at_70) rfl (teq (rfl : p2 = p2)).2 ?_
    show Steps p.tables e below (T22.setTop (mkF m 73 #[.val (.int p1), .val (.int p2), .val (.int p3), .val (.int p4), .val (.int p5), .val (.int p6), .val (.ref b7), .val (.int (1 : Int32))] [])) _
    refine XS.aload X22.here hx rfl (hb hby at_73) rfl rfl ?_
    show Steps p.tables e below (T22.setTop (mkF m 75 #[.val (.int p1), .val (.int p2), .val (.int p3), .val (.int p4), .val (.int p5), .val (.int p6), .val (.ref b7), .val (.int (1 : Int32))] [(.ref b7)])) _
    refine XS.iconst X22.here hx rfl (hb hby at_75) ?_
    show Steps p.tables e below (T22.setTop (mkF m 76 #[.val (.int p1), .val (.int p2), .val (.int p3), .val (.int p4), .val (.int p5), .val (.int p6), .val (.ref b7), .val (.int (1 : Int32))] [(.int (1 : Int32)), (.ref b7)])) _
    refine st23.trans ?_
    show Steps p.tables e below (T23.setTop (mkF m 79 #[.val (.int p1), .val (.int p2), .val (.int p3), .val (.int p4), .val (.int p5), .val (.int p6), .val (.ref b7), .val (.int (1 : Int32))] [(.int p5)])) _
    refine XS.iload X23.here hx rfl (hb hby at_79) rfl ?_
    show Steps p.tables e below (T23.setTop (mkF m 81 #[.val (.int p1), .val (.int p2), .val (.int p3), .val (.int p4), .val (.int p5), .val (.int p6), .val (.ref b7), .val (.int (1 : Int32))] [(.int p5), (.int p5)])) _
    refine XS.icmpNo X23.here hx rfl (hb hby at_81) rfl (teq (rfl : p5 = p5)).2 ?_
    show Steps p.tables e below (T23.setTop (mkF m 84 #[.val (.int p1), .val (.int p2), .val (.int p3), .val (.int p4), .val (.int p5), .val (.int p6), .val (.ref b7), .val (.int (1 : Int32))] [])) _
    refine XS.aload X23.here hx rfl (hb hby at_84) rfl rfl ?_
    show Steps p.tables e below (T23.setTop (mkF m 86 #[.val (.int p1), .val (.int p2), .val (.int p3), .val (.int p4), .val (.int p5), .val (.int p6), .val (.ref b7), .val (.int (1 : Int32))] [(.ref b7)])) _
    refine XS.iconst X23.here hx rfl (hb hby at_86) ?_
    show Steps p.tables e below (T23.setTop (mkF m 87 #[.val (.int p1), .val (.int p2), .val (.int p3), .val (.int p4), .val (.int p5), .val (.int p6), .val (.ref b7), .val (.int (1 : Int32))] [(.int (2 : Int32)), (.ref b7)])) _
    refine st24.trans ?_
    show Steps p.tables e below (T24.setTop (mkF m 90 #[.val (.int p1), .val (.int p2), .val (.int p3), .val (.int p4), .val (.int p5), .val (.int p6), .val (.ref b7), .val (.int (1 : Int32))] [(.int (p1 + p4))])) _
    refine XS.iloadN X24.here hx rfl (hb hby at_90) rfl ?_
    show Steps p.tables e below (T24.setTop (mkF m 91 #[.val (.int p1), .val (.int p2), .val (.int p3), .val (.int p4), .val (.int p5), .val (.int p6), .val (.ref b7), .val (.int (1 : Int32))] [(.int p1), (.int (p1 + p4))])) _
    refine XS.iloadN X24.here hx rfl (hb hby at_91) rfl ?_
    show Steps p.tables e below (T24.setTop (mkF m 92 #[.val (.int p1), .val (.int p2), .val (.int p3), .val (.int p4), .val (.int p5), .val (.int p6), .val (.ref b7), .val (.int (1 : Int32))] [(.int p4), (.int p1), (.int (p1 + p4))])) _
    refine XS.iadd X24.here hx rfl (hb hby at_92) rfl ?_
    show Steps p.tables e below (T24.setTop (mkF m 93 #[.val (.int p1), .val (.int p2), .val (.int p3), .val (.int p4), .val (.int p5), .val (.int p6), .val (.ref b7), .val (.int (1 : Int32))] [(.int (p1 + p4)), (.int (p1 + p4))])) _
    refine XS.icmpNo X24.here hx rfl (hb hby at_93) rfl (teq (rfl : (p1 + p4) = (p1 + p4))).2 ?_
    show Steps p.tables e below (T24.setTop (mkF m 96 #[.val (.int p1), .val (.int p2), .val (.int p3), .val (.int p4), .val (.int p5), .val (.int p6), .val (.ref b7), .val (.int (1 : Int32))] [])) _
    refine XS.iconst X24.here hx rfl (hb hby at_96) ?_
    show Steps p.tables e below (T24.setTop (mkF m 97 #[.val (.int p1), .val (.int p2), .val (.int p3), .val (.int p4), .val (.int p5), .val (.int p6), .val (.ref b7), .val (.int (1 : Int32))] [(.int (1 : Int32))])) _
    refine XS.goto X24.here hx rfl (pc0 := 97) (pc' := 101) rfl (hb hby at_97) (by decide) (by decide) ?_
    show Steps p.tables e below (T24.setTop (mkF m 101 #[.val (.int p1), .val (.int p2), .val (.int p3), .val (.int p4), .val (.int p5), .val (.int p6), .val (.ref b7), .val (.int (1 : Int32))] [(.int (1 : Int32))])) _
    exact retN X24 hx (t := .boolean) Bd.returns (by simp) (hb hby at_101) hr
  · show Qrm0 Z p1 p2 p3 p4 p5 p6 h0 n0 _ T24.heap _
    exact ⟨rfl, N24⟩
set_option maxRecDepth 65536 in
set_option maxHeartbeats 40000000 in
theorem comes_1 {Post : Tables → Env → Array Value → State → Outcome → State → Prop} (hpost : ∀ tb e args s v u, (limb_1_1.after args s (.returned v) u = true ∧ limb_1_2.after args s (.returned v) u = true ∧ True) → FrameEnd s (.returned v) u (Jvm.fieldLocs frame_1_writes args s ++ Jvm.arrayLocs frame_1_arrays args s ++ Jvm.staticLocs frame_1_statics s) 16 6272 → Post tb e args s (.returned v) u) :
    ArmFor flags0 classFile x code maxLocals ret World_1 tables_1 room_1 Calls_1 rest_1 Pre_1 Post := by
  intro l hfl _ _ p e ha hc hk s m args below hf hA hF happ hP
  obtain ⟨hcalls, hrest, hpre⟩ := hP
  obtain ⟨-, -, -, hnamed, -, -, -, hat⟩ := (Spec.applies_iff hf).mp happ
  obtain ⟨hg, hn⟩ := and_e (Cond.before_iff.mp (show (Jvm.Cond.and given_1 narrow_1).before args s = true from hpre))
  obtain ⟨u0, u1⟩ := and_e hg
  obtain ⟨u2, u3⟩ := and_e u1
  obtain ⟨u4, u5⟩ := and_e u3
  obtain ⟨u6, u7⟩ := and_e u5
  obtain ⟨u8, u9⟩ := and_e u7
  obtain ⟨u10, u11⟩ := and_e u9
  obtain ⟨w0, w1, w2, w3, w4, w5, rfl⟩ : ∃ w0 w1 w2 w3 w4 w5 : Value, args = #[w0, w1, w2, w3, w4, w5] := by
    have hs : args.size = 6 := by simpa [Cond.value, given_1] using u0
    obtain ⟨L⟩ := args
    match L, hs with
    | [w0, w1, w2, w3, w4, w5], _ => exact ⟨w0, w1, w2, w3, w4, w5, rfl⟩
  have hw := fun d (hd : d ∈ tables_1) => atoms_spec (ws := Jvm.Cond.code x code maxLocals ret :: tables_1) hat d (List.mem_cons_of_mem _ hd)
  have hfit : Fit s := fun {y c} hc i hi => by
    obtain ⟨ha, rfl⟩ := Array.getElem?_eq_some_iff.mp hc
    have q := List.all_eq_true.mp ((Array.all_eq_true_iff_forall_mem.mp hF) _ (Array.getElem_mem ha)) i (List.mem_range.mpr hi)
    simpa [Array.getElem?_eq_getElem hi] using q
  obtain ⟨i0, ei0⟩ := is_v u2
  obtain rfl : w0 = (.int i0) := Option.some.inj ei0
  obtain ⟨i1, ei1⟩ := is_v u4
  obtain rfl : w1 = (.int i1) := Option.some.inj ei1
  obtain ⟨i2, ei2⟩ := is_v u6
  obtain rfl : w2 = (.int i2) := Option.some.inj ei2
  obtain ⟨i3, ei3⟩ := is_v u8
  obtain rfl : w3 = (.int i3) := Option.some.inj ei3
  obtain ⟨i4, ei4⟩ := is_v u10
  obtain rfl : w4 = (.int i4) := Option.some.inj ei4
  obtain ⟨i5, ei5⟩ := is_v u11
  obtain rfl : w5 = (.int i5) := Option.some.inj ei5
  obtain ⟨n, o, h1, h2, h3, _, L, rfl, ⟨rfl, N⟩, hq⟩ := rm0 l s _ hw tables_1 i0 i1 i2 i3 i4 i5 s.heap s.heap.size (Old.start s)  p e ha hc hk s m _ below hf ((Spec.applies_iff_loose hf).mp happ).1 ⟨rfl, State.Warmed39.refl s, rfl⟩ trivial
  refine ⟨n, _, h1, h2, h3, hpost _ _ _ _ _ _ ⟨Cond.after_iff.mpr rfl, Cond.after_iff.mpr (eq_i res_at (Term.int_eval (1)) rfl), trivial⟩ ⟨hq.1, hq.2.1, (hq.2.2.sift fun y hy => Or.inr (N y hy)).mono (by decide) (by decide)⟩⟩
theorem main_1_1 : Claimed_1_1 := comes_1 fun _ _ _ _ _ _ h hF => ⟨h.1, hF⟩
theorem main_1_2 : Claimed_1_2 := comes_1 fun _ _ _ _ _ _ h hF => ⟨h.2.1, hF⟩
end Jvm.Pilot.@@N@@
namespace Jvm.Pilot.@@N@@
open Jvm Jvm.ClassFile Sem Op Lib Jvm.Free Jvm.Stand Jvm.Pilot.@@N@@.Jvm.D
/-! MADE BY PROGRAM (witnessworld.py) out of the Statement's table words and the real class files: 9 classes; the members and pool entries that the words name. The judged class is class 1, her method 1. -/
namespace start1
open Jvm.ClassFile
def u (s : String) : CpInfo := .utf8 (stringToUtf16 s)
/-- a pool by its gaps: so many unusable entries, then the entry; so many at the end -/
def gap : Nat → List CpInfo → List CpInfo
  | 0, r => r
  | n + 1, r => .unusable :: gap n r
def poolList (es : List (Nat × CpInfo)) (last : Nat) : List CpInfo := es.foldr (fun e r => gap e.1 (e.2 :: r)) (gap last [])
def pool (es : List (Nat × CpInfo)) (last : Nat) : Array CpInfo := ⟨poolList es last⟩
def fileOf (pool : Array CpInfo) (this : Nat) (attrs : Array Attribute := #[]) (ms : Array MethodInfo := #[]) (fl : Nat := 33) (sup : Nat := 0) (ifs : Array Nat := #[]) (fds : Array FieldInfo := #[]) : ClassFile where
  minorVersion := 0
  majorVersion := 65
  constantPool := pool
  accessFlags := fl
  thisClass := this
  superClass := sup
  interfaces := ifs
  fields := fds
  methods := ms
  attributes := attrs
def plain (name : String) (sup : Option ClassId) : Class where
  name := name
  kind := .ordinary
  loader := none
  accessFlags := 33
  super := sup
  interfaces := #[]
  cf := none
  fields := #[]
  methods := #[]
  instanceTypes := #[]
  staticTypes := #[]
  resolved := #[]
  callSites := []
  init := .initialized
  statics := none
  mirror := none

def pool0 : Array CpInfo := pool [(5, u "<init>"), (0, u "()V"), (1, .class_ 10), (1, u "java/lang/Object")] 113

def k0c0 : Code := { maxStack := 0, maxLocals := 1, code := object_method_1_code, exceptionTable := #[], attributes := #[] }
def k0m0 : Method := { name := "<init>", desc := "()V", sig := { parameters := [], returnType := none }, accessFlags := 1, code := some k0c0 }
/-- java/lang/Object -/
def k0 : Class := { plain "java/lang/Object" none with
  accessFlags := 33
  interfaces := #[]
  cf := some (fileOf pool0 8 #[] #[{ accessFlags := 1, nameIndex := 5, descriptorIndex := 6, attributes := #[] }] 33 0 #[] #[])
  fields := #[]
  methods := #[k0m0]
  instanceTypes := #[]
  staticTypes := #[]
  resolved := Array.replicate 124 none
  statics := none }

def pool1 : Array CpInfo := pool [(2, .class_ 4), (0, .nameAndType 5 6), (0, u "java/lang/Object"), (0, u "<init>"), (0, u "()V"), (0, .class_ 8), (0, u "com/example/rokin/rokin/store/TripleColumns"), (0, .methodref 7 3), (0, .methodref 7 11), (0, .nameAndType 12 13), (0, u "add"), (0, u "(III)I"), (0, .methodref 7 15), (0, .nameAndType 16 17), (0, u "predicate"), (0, u "(I)I"), (0, .class_ 19), (0, u "com/example/rokin/rokin/store/TripleColumnsPredicatePinLaw"), (2, u "law"), (0, u "(IIIIII)Z")] 3

def k1m0 : Method := { name := "<init>", desc := "()V", sig := { parameters := [], returnType := none }, accessFlags := 2, code := none }
def k1c1 : Code := { maxStack := 4, maxLocals := 8, code := code, exceptionTable := #[], attributes := #[] }
def k1m1 : Method := { name := "law", desc := "(IIIIII)Z", sig := { parameters := [.int, .int, .int, .int, .int, .int], returnType := some .boolean }, accessFlags := 9, code := some k1c1 }
/-- com/example/rokin/rokin/store/TripleColumnsPredicatePinLaw -/
def k1 : Class := { plain "com/example/rokin/rokin/store/TripleColumnsPredicatePinLaw" (some 0) with
  accessFlags := 49
  interfaces := #[]
  cf := some (fileOf pool1 18 #[] #[{ accessFlags := 2, nameIndex := 5, descriptorIndex := 6, attributes := #[] }, { accessFlags := 9, nameIndex := 22, descriptorIndex := 23, attributes := #[] }] 49 2 #[] #[])
  fields := #[]
  methods := #[k1m0, k1m1]
  instanceTypes := #[]
  staticTypes := #[]
  resolved := Array.replicate 27 none
  statics := none }

def pool2 : Array CpInfo := pool [(1, .class_ 2), (0, u "com/example/rokin/rokin/store/TripleColumns"), (0, .methodref 4 5), (0, .class_ 6), (0, .nameAndType 7 8), (0, u "java/lang/Object"), (0, u "<init>"), (0, u "()V"), (0, .class_ 10), (0, u "[I"), (0, .fieldref 1 12), (0, .nameAndType 13 14), (0, u "pages"), (0, u "[[I"), (0, .fieldref 1 16), (0, .nameAndType 17 18), (0, u "size"), (0, u "I"), (2, .integer 2147483647), (16, .integer 98304), (3, u "PAGE_SHIFT"), (2, u "PAGE_ROWS"), (1, u "IN_PAGE"), (5, u "(I)I"), (0, u "predicate"), (1, u "add"), (0, u "(III)I")] 18

def k2c0 : Code := { maxStack := 5, maxLocals := 1, code := prog_108_method_1_code, exceptionTable := #[], attributes := #[] }
def k2m0 : Method := { name := "<init>", desc := "()V", sig := { parameters := [], returnType := none }, accessFlags := 0, code := some k2c0 }
def k2c1 : Code := { maxStack := 4, maxLocals := 2, code := prog_108_method_4_code, exceptionTable := #[], attributes := #[] }
def k2m1 : Method := { name := "predicate", desc := "(I)I", sig := { parameters := [.int], returnType := some .int }, accessFlags := 0, code := some k2c1 }
def k2c2 : Code := { maxStack := 5, maxLocals := 7, code := prog_108_method_6_code, exceptionTable := #[], attributes := #[] }
def k2m2 : Method := { name := "add", desc := "(III)I", sig := { parameters := [.int, .int, .int], returnType := some .int }, accessFlags := 0, code := some k2c2 }
/-- com/example/rokin/rokin/store/TripleColumns -/
def k2 : Class := { plain "com/example/rokin/rokin/store/TripleColumns" (some 0) with
  accessFlags := 48
  interfaces := #[]
  cf := some (fileOf pool2 1 #[] #[{ accessFlags := 0, nameIndex := 7, descriptorIndex := 8, attributes := #[] }, { accessFlags := 0, nameIndex := 54, descriptorIndex := 53, attributes := #[] }, { accessFlags := 0, nameIndex := 56, descriptorIndex := 57, attributes := #[] }] 48 4 #[] #[{ accessFlags := 26, nameIndex := 42, descriptorIndex := 18, attributes := #[] }, { accessFlags := 26, nameIndex := 45, descriptorIndex := 18, attributes := #[] }, { accessFlags := 26, nameIndex := 47, descriptorIndex := 18, attributes := #[] }, { accessFlags := 2, nameIndex := 13, descriptorIndex := 14, attributes := #[] }, { accessFlags := 2, nameIndex := 17, descriptorIndex := 18, attributes := #[] }])
  fields := #[{ name := "PAGE_SHIFT", type := .int, accessFlags := 26, slot := 0, constantValue := 0 }, { name := "PAGE_ROWS", type := .int, accessFlags := 26, slot := 1, constantValue := 0 }, { name := "IN_PAGE", type := .int, accessFlags := 26, slot := 2, constantValue := 0 }, { name := "pages", type := (.array (.array .int)), accessFlags := 2, slot := 0, constantValue := 0 }, { name := "size", type := .int, accessFlags := 2, slot := 1, constantValue := 0 }]
  methods := #[k2m0, k2m1, k2m2]
  instanceTypes := #[(.array (.array .int)), .int]
  staticTypes := #[.int, .int, .int]
  resolved := Array.replicate 76 none
  statics := none }

def pool3 : Array CpInfo := pool [(1, u "java/lang/Cloneable"), (0, .class_ 1), (0, u "java/lang/Object"), (0, .class_ 3)] 3

/-- java/lang/Cloneable -/
def k3 : Class := { plain "java/lang/Cloneable" (some 0) with
  accessFlags := 1537
  interfaces := #[]
  cf := some (fileOf pool3 2 #[] #[] 1537 4 #[] #[])
  fields := #[]
  methods := #[]
  instanceTypes := #[]
  staticTypes := #[]
  resolved := Array.replicate 8 none
  statics := none }

def pool4 : Array CpInfo := pool [(1, u "java/io/Serializable"), (0, .class_ 1), (0, u "java/lang/Object"), (0, .class_ 3)] 3

/-- java/io/Serializable -/
def k4 : Class := { plain "java/io/Serializable" (some 0) with
  accessFlags := 1537
  interfaces := #[]
  cf := some (fileOf pool4 2 #[] #[] 1537 4 #[] #[])
  fields := #[]
  methods := #[]
  instanceTypes := #[]
  staticTypes := #[]
  resolved := Array.replicate 8 none
  statics := none }

/-- the primitive byte -/
def k5 : Class := { plain "byte" none with kind := .primitive 'B', accessFlags := 0x411 }
/-- [B -/
def k6 : Class := { plain "[B" (some 0) with kind := .array 5 .byte, interfaces := #[3, 4], accessFlags := 1041 }

/-- the primitive int -/
def k7 : Class := { plain "int" none with kind := .primitive 'I', accessFlags := 0x411 }
/-- [I -/
def k8 : Class := { plain "[I" (some 0) with kind := .array 7 .int, interfaces := #[3, 4], accessFlags := 1041 }

def heap : Heap := #[]
def k9 : Class := { plain "[[I" (some 0) with kind := .array 8 (.array .int), interfaces := #[3, 4], accessFlags := 1041 }
def classes : Array Class := #[k0, k1, k2, k3, k4, k5, k6, k7, k8, k9]
def interned : List (Array UInt16 × Addr) := []
def slotsUsed : Nat := 0
def theMethod : MethodId := ⟨1, 1⟩
def args0 : Array Value := #[.int 1, .int 2, .int 3, .int 4, .int 5, .int 6]
def aboutOver (below : List Frame) : State where
  vm := { classes := classes, interned := interned.toArray }
  heap := heap
  slotsUsed := slotsUsed
  threads := #[{ frames := .invoking theMethod args0 :: below }]
def below0 : List Frame := [.native { method := ⟨0, 0⟩, args := #[] }]
def about1 : State := aboutOver below0
def p0 : Program := .bare "" "" ""
def e0 : Env := launch0.env 0 0 0
theorem w_frames : about1.frames = Frame.invoking theMethod args0 :: below0 := rfl
set_option maxRecDepth 65536 in
theorem w_args : argsFit about1.vm theMethod args0 = true := by decide +kernel
set_option maxRecDepth 65536 in
theorem w_heap : heapFits about1 = true := by decide +kernel
set_option maxRecDepth 65536 in
theorem w_runnable : about1.curStatus? = some .runnable := by decide +kernel
set_option maxRecDepth 65536 in
theorem w_alone : about1.alone = true := by decide +kernel
set_option maxRecDepth 65536 in
theorem w_named : about1.methodNamed? x = some theMethod := by decide +kernel
set_option maxRecDepth 65536 in
theorem w_hears : about1.hears theMethod below0 = true := by decide +kernel
set_option maxRecDepth 65536 in
theorem w_ripe : about1.ripe theMethod args0 below0 = true := by decide +kernel
theorem w_running : about1.status = .running := rfl
set_option maxRecDepth 65536 in
theorem w_room : about1.hasRoom e0.platform room_1 = true :=
  launch0.hasRoom_least _ room_1 (by decide +kernel) (by decide +kernel) (by decide +kernel) (by decide +kernel) (by decide +kernel) (by decide +kernel)
theorem allAtoms_all (ts : List Jvm.Cond) (a : Array Jvm.Value) (st : Jvm.State) : (allAtoms ts).before a st = ts.all (fun c => c.before a st) := by
  induction ts with
  | nil => rfl
  | cons c t ih =>
    show (Jvm.Cond.and c (allAtoms t)).before a st = _
    rw [Jvm.Cond.before_and, ih, List.all_cons]
def words1 : List Jvm.Cond := Jvm.Cond.code x code maxLocals ret :: tables_1
/-- a 'code' word, met by the world's own term for the bytes: nothing is compared byte by byte -/
theorem code_word {y : MethodName} {bytes : ByteArray} {mx : Nat} {rt : Option FieldType} {a : Array Value} {s : State} {m : MethodId} {meth : Method} {c : Code} (h1 : s.methodNamed? y = some m) (h2 : s.vm.method? m = some meth) (h3 : meth.code = some c) (h4 : c.code = bytes)
    (h5 : (c.maxLocals == mx && c.exceptionTable.isEmpty && decide (c.maxStack ≤ mostOperands) && decide (meth.sig.returnType = rt) && !meth.locks && decide (parseMethodDescriptor y.desc = some meth.sig)) = true) : (Jvm.Cond.code y bytes mx rt).before a s = true := by
  simp only [Bool.and_eq_true, beq_iff_eq, Bool.not_eq_true', decide_eq_true_eq] at h5
  obtain ⟨⟨⟨⟨⟨g1, g2⟩, g3⟩, g4⟩, g5⟩, g6⟩ := h5
  simp [Cond.before, Cond.holds, Cond.value, h1, h2, h3, h4, g1, g2, g3, g4, g5, g6]
def isCode : Jvm.Cond → Bool
  | .code _ _ _ _ => true
  | _ => false
theorem all_split {L : List Jvm.Cond} {P : Jvm.Cond → Bool} (h1 : L.all (fun c => isCode c || P c) = true) (h2 : ∀ c ∈ L.filter isCode, P c = true) : L.all P = true := by
  refine List.all_eq_true.mpr fun c hc => ?_
  have h := List.all_eq_true.mp h1 c hc
  rcases Bool.eq_false_or_eq_true (isCode c) with hi | hi
  · exact h2 c (List.mem_filter.mpr ⟨hc, hi⟩)
  · simpa [hi] using h
set_option maxRecDepth 65536 in
theorem w_c0 : (Jvm.Cond.code x code maxLocals ret).before args0 about1 = true := code_word (m := ⟨1, 1⟩) (meth := k1m1) (c := k1c1) (by decide +kernel) rfl rfl rfl (by decide +kernel)
set_option maxRecDepth 65536 in
theorem w_c1 : (Jvm.Cond.code ({ cls := "com/example/rokin/rokin/store/TripleColumns", name := "<init>", desc := "()V" } : Jvm.MethodName) prog_108_method_1_code (1 : Nat) (Option.none : Option Jvm.ClassFile.FieldType)).before args0 about1 = true := code_word (m := ⟨2, 0⟩) (meth := k2m0) (c := k2c0) (by decide +kernel) rfl rfl rfl (by decide +kernel)
set_option maxRecDepth 65536 in
theorem w_c2 : (Jvm.Cond.code ({ cls := "java/lang/Object", name := "<init>", desc := "()V" } : Jvm.MethodName) object_method_1_code (1 : Nat) (Option.none : Option Jvm.ClassFile.FieldType)).before args0 about1 = true := code_word (m := ⟨0, 0⟩) (meth := k0m0) (c := k0c0) (by decide +kernel) rfl rfl rfl (by decide +kernel)
set_option maxRecDepth 65536 in
theorem w_c3 : (Jvm.Cond.code ({ cls := "com/example/rokin/rokin/store/TripleColumns", name := "add", desc := "(III)I" } : Jvm.MethodName) prog_108_method_6_code (7 : Nat) (Option.some Jvm.ClassFile.FieldType.int)).before args0 about1 = true := code_word (m := ⟨2, 2⟩) (meth := k2m2) (c := k2c2) (by decide +kernel) rfl rfl rfl (by decide +kernel)
set_option maxRecDepth 65536 in
theorem w_c4 : (Jvm.Cond.code ({ cls := "com/example/rokin/rokin/store/TripleColumns", name := "predicate", desc := "(I)I" } : Jvm.MethodName) prog_108_method_4_code (2 : Nat) (Option.some Jvm.ClassFile.FieldType.int)).before args0 about1 = true := code_word (m := ⟨2, 1⟩) (meth := k2m1) (c := k2c1) (by decide +kernel) rfl rfl rfl (by decide +kernel)
def codes1 : List Jvm.Cond := [Jvm.Cond.code x code maxLocals ret, Jvm.Cond.code ({ cls := "com/example/rokin/rokin/store/TripleColumns", name := "<init>", desc := "()V" } : Jvm.MethodName) prog_108_method_1_code (1 : Nat) (Option.none : Option Jvm.ClassFile.FieldType), Jvm.Cond.code ({ cls := "java/lang/Object", name := "<init>", desc := "()V" } : Jvm.MethodName) object_method_1_code (1 : Nat) (Option.none : Option Jvm.ClassFile.FieldType), Jvm.Cond.code ({ cls := "com/example/rokin/rokin/store/TripleColumns", name := "add", desc := "(III)I" } : Jvm.MethodName) prog_108_method_6_code (7 : Nat) (Option.some Jvm.ClassFile.FieldType.int), Jvm.Cond.code ({ cls := "com/example/rokin/rokin/store/TripleColumns", name := "predicate", desc := "(I)I" } : Jvm.MethodName) prog_108_method_4_code (2 : Nat) (Option.some Jvm.ClassFile.FieldType.int)]
set_option maxRecDepth 65536 in
theorem codes_eq : words1.filter isCode = codes1 := rfl
theorem w_codes : ∀ c ∈ words1.filter isCode, c.before args0 about1 = true := by
  rw [codes_eq]
  intro c hc
  simp only [codes1, List.mem_cons, List.not_mem_nil, or_false] at hc
  rcases hc with rfl | rfl | rfl | rfl | rfl
  · exact w_c0
  · exact w_c1
  · exact w_c2
  · exact w_c3
  · exact w_c4
set_option maxRecDepth 65536 in
theorem w_t1 : (words1.take 24).all (fun c => isCode c || c.before args0 about1) = true := by decide +kernel
set_option maxRecDepth 65536 in
theorem w_t2 : (words1.drop 24).all (fun c => isCode c || c.before args0 about1) = true := by decide +kernel
theorem w_tables : (allAtoms (Jvm.Cond.code x code maxLocals ret :: tables_1)).before args0 about1 = true := by
  rw [allAtoms_all]
  show words1.all (fun c => c.before args0 about1) = true
  refine all_split ?_ w_codes
  rw [← List.take_append_drop 24 words1, List.all_append, w_t1, w_t2]
  rfl
set_option maxRecDepth 65536 in
theorem w_case : (Jvm.Cond.and given_1 narrow_1).before args0 about1 = true := by decide +kernel
theorem w_applies : (headSpec (Jvm.Cond.code x code maxLocals ret :: tables_1) room_1).applies x e0.platform about1 = true :=
  (Spec.applies_iff w_frames).mpr ⟨w_running, w_runnable, w_alone, w_named, w_hears, w_ripe, w_room, w_tables⟩
theorem atStart : AtStart classFile x code maxLocals ret World_1 tables_1 room_1 Calls_1 rest_1 Pre_1 launch0 p0 e0 about1 theMethod args0 below0 :=
  ⟨lists_1, trivial, launch0.admits_env _ _ _, launch0.least_env, fairChoices_fair.cas, fairChoices_fair.clock, w_frames, w_args, w_heap, w_applies, trivial, trivial, w_case⟩
end start1
theorem witness_1 : WitnessClaimed_1 := ⟨start1.p0, start1.e0, start1.about1, start1.theMethod, start1.args0, start1.below0, start1.atStart⟩
end Jvm.Pilot.@@N@@
