import JvmDerived
import JvmDerived.Pilot.@@N@@Statement
import JvmDerived.Pilot.@@N@@Code
set_option linter.unusedVariables false
set_option linter.unusedSimpArgs false
namespace Jvm.RoadKit
open Sem ClassFile Op Lib Jvm.Stand Jvm.Free Jvm.LawKit
section New
variable {p : Program} {l : Launch} {e : Env} {R : Room} {s : State} {m : MethodId} {args : Array Value} {below : List Frame} {meth : Method} {c : Code} {T : State} {locs : List Loc} {cells slots : Nat}
theorem retI (X : Stand p l e R s m args below meth c T locs cells slots) (hx : p.tables.exec = Jvm.exec) {pc : Nat} {Ls : Array Slot} {z : Int32} {rest : List Value} (hret : meth.sig.returnType = some .int) (hd : decode c.code pc = .ok (.ireturn, 1)) {fs : List Frame}
    (hl : ∀ (f : JFrame) (acts : List Action), f.method = m → f.locked = none → f.entered = [] → (doReturn e (T.setTop f) acts (some (.int z))).1 = T.setFrames fs) : Steps p.tables e below (T.setTop (mkF m pc Ls (.int z :: rest))) (T.setFrames fs) := by
  have hm' : T.vm.method? m = some meth := X.method'
  have hn : narrow .int (.int z) = .int z := rfl
  show Steps p.tables e below (T.setTop { method := m, pc := pc, locals := Ls, stack := _ :: rest, locked := none }) _
  jvm_step X.here [X.here.top, hx, hd, hm', hret, hn]
  first | (intro acts; rw [hl _ acts rfl rfl rfl]) | rw [hl _ _ rfl rfl rfl]
  exact Steps.refl _
end New
end Jvm.RoadKit
namespace Jvm.Pilot.@@N@@
open Jvm Jvm.ClassFile Sem Op Lib Jvm.Free Jvm.Stand Jvm.LawKit Jvm.RoadKit Bundle Jvm.Pilot.@@N@@.Jvm.D
theorem own_n0 {Z : State} {n0 : Nat} {h : Heap} (O : Old Z n0 h) : n0 ≤ h.size := O.1 ▸ O.2.1
theorem own_born {Z : State} {n0 : Nat} {h : Heap} {b : Addr} (O : Old Z n0 h) (q : h.size ≤ b) : n0 ≤ b := Nat.le_trans (own_n0 O) q
theorem own_eqle {b : Addr} {n : Nat} (q : b = n) : n ≤ b := Nat.le_of_eq q.symm
theorem own_ltn {a b : Addr} {n : Nat} (h : a < n) (q : n ≤ b) : a ≠ b := Nat.ne_of_lt (Nat.lt_of_lt_of_le h q)
theorem own_oldlt {Z : State} {n0 : Nat} {h : Heap} {a : Addr} (O : Old Z n0 h) (q : a < Z.heap.size) : a < h.size := Nat.lt_of_lt_of_le q O.2.1
theorem own_and3 (x : Int32) : x &&& 3 = 0 ∨ x &&& 3 = 1 ∨ x &&& 3 = 2 ∨ x &&& 3 = 3 := by
  have h := c_mask x 3 2 (by decide) (by decide)
  have h2 : (x &&& 3).toInt = 0 ∨ (x &&& 3).toInt = 1 ∨ (x &&& 3).toInt = 2 ∨ (x &&& 3).toInt = 3 := by
    have h3 : (x &&& 3).toInt = x.toInt % 4 := h
    omega
  rcases h2 with h2 | h2 | h2 | h2
  · exact Or.inl (Int32.toInt_inj.mp (h2.trans (by decide)))
  · exact Or.inr (Or.inl (Int32.toInt_inj.mp (h2.trans (by decide))))
  · exact Or.inr (Or.inr (Or.inl (Int32.toInt_inj.mp (h2.trans (by decide)))))
  · exact Or.inr (Or.inr (Or.inr (Int32.toInt_inj.mp (h2.trans (by decide)))))

/-- the forest: par the parents, rt the roots, ord the orders -/
def own_Inv (ord : Fin 4 → Int32) (par rt : Fin 4 → Fin 4) : Prop :=
  (∀ j, par (rt j) = rt j) ∧ (∀ j, rt (par j) = rt j) ∧ (∀ j, par j = j → rt j = j) ∧ (∀ j, par j = j ∨ (ord (par j)).toInt < (ord j).toInt) ∧ (∀ j, rt j = j ∨ (ord (rt j)).toInt < (ord j).toInt)
def own_set (par : Fin 4 → Fin 4) (i k : Fin 4) : Fin 4 → Fin 4 := fun j => if j = i then k else par j
theorem own_rtrt {ord : Fin 4 → Int32} {par rt : Fin 4 → Fin 4} (I : own_Inv ord par rt) (j : Fin 4) : rt (rt j) = rt j := I.2.2.1 _ (I.1 j)
theorem own_inv_root {ord : Fin 4 → Int32} {par rt : Fin 4 → Fin 4} (I : own_Inv ord par rt) (i : Fin 4) : own_Inv ord (own_set par i (rt i)) rt := by
  have R := own_rtrt I
  obtain ⟨h1, h2, h3, h4, h5⟩ := I
  refine ⟨fun j => ?_, fun j => ?_, fun j => ?_, fun j => ?_, h5⟩
  · unfold own_set
    split
    · rename_i e
      rw [← e]
      exact R j
    · exact h1 j
  · unfold own_set
    split
    · rename_i e
      rw [e]
      exact R i
    · exact h2 j
  · unfold own_set
    split
    · rename_i e
      rw [e]
      exact fun q => q
    · exact h3 j
  · unfold own_set
    split
    · rename_i e
      rw [e]
      exact h5 i
    · exact h4 j
/-- the class of b joins that of a: its root hangs under a's -/
def own_mv (rt : Fin 4 → Fin 4) (b a : Fin 4) : Fin 4 → Fin 4 := fun k => if rt k = b then a else rt k
theorem own_inv_link {ord : Fin 4 → Int32} {par rt : Fin 4 → Fin 4} (I : own_Inv ord par rt) (a b : Fin 4) (ha : rt a = a) (hb : rt b = b) (hlt : a = b ∨ (ord a).toInt < (ord b).toInt) : own_Inv ord (own_set par b a) (own_mv rt b a) := by
  have R := own_rtrt I
  obtain ⟨h1, h2, h3, h4, h5⟩ := I
  have pa : par a = a := by have := h1 a; rwa [ha] at this
  have pb : par b = b := by have := h1 b; rwa [hb] at this
  rcases hlt with rfl | hlt
  · have e1 : own_set par a a = par := funext fun j => by
      unfold own_set
      split
      · rename_i e; rw [e]; exact pa.symm
      · rfl
    have e2 : own_mv rt a a = rt := funext fun k => by
      unfold own_mv
      split
      · rename_i e; exact e.symm
      · rfl
    rw [e1, e2]
    exact ⟨h1, h2, h3, h4, h5⟩
  · have ne : a ≠ b := fun e => by rw [e] at hlt; omega
    have mva : own_mv rt b a a = a := by unfold own_mv; rw [ha, if_neg ne]
    refine ⟨fun j => ?_, fun j => ?_, fun j => ?_, fun j => ?_, fun j => ?_⟩
    · unfold own_mv own_set
      by_cases e : rt j = b
      · rw [if_pos e, if_neg ne]; exact pa
      · rw [if_neg e, if_neg e]; exact h1 j
    · by_cases e : j = b
      · rw [e]
        have : own_set par b a b = a := by unfold own_set; rw [if_pos rfl]
        rw [this, mva]
        unfold own_mv
        rw [hb, if_pos rfl]
      · have : own_set par b a j = par j := by unfold own_set; rw [if_neg e]
        rw [this]
        unfold own_mv
        rw [h2 j]
    · by_cases e : j = b
      · rw [e]
        have : own_set par b a b = a := by unfold own_set; rw [if_pos rfl]
        rw [this]
        exact fun q => absurd q ne
      · have : own_set par b a j = par j := by unfold own_set; rw [if_neg e]
        rw [this]
        intro q
        unfold own_mv
        rw [h3 j q, if_neg e]
    · by_cases e : j = b
      · rw [e]
        have : own_set par b a b = a := by unfold own_set; rw [if_pos rfl]
        rw [this]
        exact Or.inr hlt
      · have : own_set par b a j = par j := by unfold own_set; rw [if_neg e]
        rw [this]
        exact h4 j
    · unfold own_mv
      by_cases e : rt j = b
      · rw [if_pos e]
        rcases h5 j with q | q
        · rw [q] at e
          rw [e]
          exact Or.inr hlt
        · rw [e] at q
          exact Or.inr (by omega)
      · rw [if_neg e]
        exact h5 j
/-- the law's own classes -/
def own_Cls (g : Fin 4 → Int32) (rt : Fin 4 → Fin 4) : Prop := ∀ k l, g k = g l ↔ rt k = rt l
def own_jn (g : Fin 4 → Int32) (i j : Fin 4) : Fin 4 → Int32 := fun k => if g k = g j then g i else g k
theorem own_cls_join {g : Fin 4 → Int32} {rt : Fin 4 → Fin 4} (H : own_Cls g rt) (i j : Fin 4) : own_Cls (own_jn g i j) (own_mv rt (rt j) (rt i)) := by
  intro k l
  show (if g k = g j then g i else g k) = (if g l = g j then g i else g l) ↔ (if rt k = rt j then rt i else rt k) = (if rt l = rt j then rt i else rt l)
  by_cases a : g k = g j
  · by_cases b : g l = g j
    · rw [if_pos a, if_pos b, if_pos ((H k j).mp a), if_pos ((H l j).mp b)]
      exact ⟨fun _ => rfl, fun _ => rfl⟩
    · rw [if_pos a, if_neg b, if_pos ((H k j).mp a), if_neg (fun q => b ((H l j).mpr q))]
      exact H i l
  · by_cases b : g l = g j
    · rw [if_neg a, if_pos b, if_neg (fun q => a ((H k j).mpr q)), if_pos ((H l j).mp b)]
      exact H k i
    · rw [if_neg a, if_neg b, if_neg (fun q => a ((H k j).mpr q)), if_neg (fun q => b ((H l j).mpr q))]
      exact H k l
theorem own_jn_self {x y : Int32} : (if x = y then x else x) = x := by split <;> rfl
theorem own_cls_join' {g : Fin 4 → Int32} {rt : Fin 4 → Fin 4} (H : own_Cls g rt) (i j : Fin 4) : own_Cls (own_jn g i j) (own_mv rt (rt i) (rt j)) := by
  intro k l
  show (if g k = g j then g i else g k) = (if g l = g j then g i else g l) ↔ (if rt k = rt i then rt j else rt k) = (if rt l = rt i then rt j else rt l)
  by_cases a : g k = g i
  · rw [if_pos ((H k i).mp a), a, own_jn_self]
    by_cases b : g l = g i
    · rw [if_pos ((H l i).mp b), b, own_jn_self]
      exact ⟨fun _ => rfl, fun _ => rfl⟩
    · rw [if_neg (fun q => b ((H l i).mpr q))]
      by_cases c : g l = g j
      · rw [if_pos c]
        exact ⟨fun _ => (H j l).mp c.symm, fun _ => rfl⟩
      · rw [if_neg c]
        exact ⟨fun q => absurd q.symm b, fun q => absurd ((H j l).mpr q).symm c⟩
  · rw [if_neg (fun q => a ((H k i).mpr q))]
    by_cases b : g l = g i
    · rw [if_pos ((H l i).mp b), b, own_jn_self]
      by_cases c : g k = g j
      · rw [if_pos c]
        exact ⟨fun _ => (H k j).mp c, fun _ => rfl⟩
      · rw [if_neg c]
        exact ⟨fun q => absurd q a, fun q => absurd ((H k j).mpr q) c⟩
    · rw [if_neg (fun q => b ((H l i).mpr q))]
      by_cases c : g k = g j
      · by_cases d : g l = g j
        · rw [if_pos c, if_pos d]
          exact ⟨fun _ => (H k l).mp (c.trans d.symm), fun _ => rfl⟩
        · rw [if_pos c, if_neg d]
          exact ⟨fun q => absurd q.symm b, fun q => absurd (((H k l).mpr q).symm.trans c) d⟩
      · by_cases d : g l = g j
        · rw [if_neg c, if_pos d]
          exact ⟨fun q => absurd q a, fun q => absurd (((H k l).mpr q).trans d) c⟩
        · rw [if_neg c, if_neg d]
          exact H k l
/-- the best of the class so far -/
def own_bst (g ord : Fin 4 → Int32) (i k b : Fin 4) : Fin 4 := if g k = g i ∧ ord k < ord b then k else b
def own_exp (g ord : Fin 4 → Int32) (i : Fin 4) : Fin 4 := own_bst g ord i 3 (own_bst g ord i 2 (own_bst g ord i 1 (own_bst g ord i 0 i)))
theorem own_bst_in {g ord : Fin 4 → Int32} {i k b : Fin 4} (h : g b = g i) : g (own_bst g ord i k b) = g i := by
  unfold own_bst
  split
  · rename_i q; exact q.1
  · exact h
theorem own_bst_le {g ord : Fin 4 → Int32} {i k b : Fin 4} : (ord (own_bst g ord i k b)).toInt ≤ (ord b).toInt ∧ (g k = g i → (ord (own_bst g ord i k b)).toInt ≤ (ord k).toInt) := by
  unfold own_bst
  split
  · rename_i q
    have := Int32.lt_iff_toInt_lt.mp q.2
    exact ⟨by omega, fun _ => by omega⟩
  · rename_i q
    refine ⟨by omega, fun h => ?_⟩
    have : ¬ ord k < ord b := fun c => q ⟨h, c⟩
    rw [Int32.lt_iff_toInt_lt] at this
    omega
theorem own_exp_spec (g ord : Fin 4 → Int32) (i : Fin 4) : g (own_exp g ord i) = g i ∧ ∀ k, g k = g i → (ord (own_exp g ord i)).toInt ≤ (ord k).toInt := by
  have i0 : g (own_bst g ord i 0 i) = g i := own_bst_in rfl
  have i1 := own_bst_in (ord := ord) (k := 1) i0
  have i2 := own_bst_in (ord := ord) (k := 2) i1
  have i3 := own_bst_in (ord := ord) (k := 3) i2
  refine ⟨i3, fun k hk => ?_⟩
  have a0 := own_bst_le (g := g) (ord := ord) (i := i) (k := 0) (b := i)
  have a1 := own_bst_le (g := g) (ord := ord) (i := i) (k := 1) (b := own_bst g ord i 0 i)
  have a2 := own_bst_le (g := g) (ord := ord) (i := i) (k := 2) (b := own_bst g ord i 1 (own_bst g ord i 0 i))
  have a3 := own_bst_le (g := g) (ord := ord) (i := i) (k := 3) (b := own_bst g ord i 2 (own_bst g ord i 1 (own_bst g ord i 0 i)))
  have c : k = 0 ∨ k = 1 ∨ k = 2 ∨ k = 3 := by omega
  unfold own_exp
  rcases c with rfl | rfl | rfl | rfl
  · have := a0.2 hk; omega
  · have := a1.2 hk; omega
  · have := a2.2 hk; omega
  · exact a3.2 hk
theorem own_exp_root {g ord : Fin 4 → Int32} {par rt : Fin 4 → Fin 4} (I : own_Inv ord par rt) (H : own_Cls g rt) (inj : ∀ k l, ord k = ord l → k = l) (i : Fin 4) : own_exp g ord i = rt i := by
  obtain ⟨h1, h2⟩ := own_exp_spec g ord i
  have e1 : rt (own_exp g ord i) = rt i := (H _ _).mp h1
  have e2 : g (rt i) = g i := (H _ _).mpr (own_rtrt I i)
  have e3 := h2 _ e2
  have e4 : (ord (rt i)).toInt ≤ (ord (own_exp g ord i)).toInt := by
    rcases I.2.2.2.2 (own_exp g ord i) with q | q
    · rw [e1] at q; rw [q]; omega
    · rw [e1] at q; omega
  exact inj _ _ (Int32.toInt_inj.mp (by omega))

def own_ix (i : Fin 4) : Int32 := Int32.ofNat i.val
theorem own_fin4 (i : Fin 4) : i = 0 ∨ i = 1 ∨ i = 2 ∨ i = 3 := by omega
theorem own_ixb (i : Fin 4) : ¬ own_ix i < 0 ∧ own_ix i < 4 := by rcases own_fin4 i with rfl | rfl | rfl | rfl <;> decide
theorem own_getI (g : Fin 4 → Int32) (i : Fin 4) (d : Value) : ([.int (g 0), .int (g 1), .int (g 2), .int (g 3)] : List Value).getD (own_ix i).toNatClampNeg d = .int (g i) := by rcases own_fin4 i with rfl | rfl | rfl | rfl <;> rfl
theorem own_getR (t : Fin 4 → Addr) (i : Fin 4) (d : Value) : ([.ref (t 0), .ref (t 1), .ref (t 2), .ref (t 3)] : List Value).getD (own_ix i).toNatClampNeg d = .ref (t i) := by rcases own_fin4 i with rfl | rfl | rfl | rfl <;> rfl
theorem own_mem (t : Fin 4 → Addr) (i : Fin 4) : t i ∈ [t 0, t 1, t 2, t 3] := by rcases own_fin4 i with rfl | rfl | rfl | rfl <;> simp
theorem own_ix3 (x : Int32) : ∃ i : Fin 4, (x &&& (3 : Int32)) = own_ix i := by
  rcases own_and3 x with h | h | h | h
  · exact ⟨0, h⟩
  · exact ⟨1, h⟩
  · exact ⟨2, h⟩
  · exact ⟨3, h⟩
def own_f4 {α : Type} (a b c d : α) : Fin 4 → α := fun i => if i = 0 then a else if i = 1 then b else if i = 2 then c else d
def own_For (Z : State) (h : Heap) (t : Fin 4 → Addr) (ord : Fin 4 → Int32) (par : Fin 4 → Fin 4) : Prop :=
  (∀ i, Exa Z h (t i) "com/example/pentad/pentad/tx/TempId") ∧ (∀ i, Fld Z h (t i) "com/example/pentad/pentad/tx/TempId" "order" "I" (.int (ord i))) ∧ ∀ i, Fld Z h (t i) "com/example/pentad/pentad/tx/TempId" "parent" "Lcom/example/pentad/pentad/tx/TempId;" (.ref (t (par i)))
theorem own_For_set {Z : State} {a0 : Array Value} {h h' : Heap} {t : Fin 4 → Addr} {ord : Fin 4 → Int32} {par : Fin 4 → Fin 4} (F : own_For Z h t ord par) (inj : ∀ i j, t i = t j → i = j) (L1 : Laid Z a0 "com/example/pentad/pentad/tx/TempId" "com/example/pentad/pentad/tx/TempId" "order" "I") (L2 : Laid Z a0 "com/example/pentad/pentad/tx/TempId" "com/example/pentad/pentad/tx/TempId" "parent" "Lcom/example/pentad/pentad/tx/TempId;") {i k : Fin 4} (W : Wr h h' (t i) (Jvm.RoadKit.slotOf Z "com/example/pentad/pentad/tx/TempId" "parent" "Lcom/example/pentad/pentad/tx/TempId;") (.ref (t k))) : own_For Z h' t ord (own_set par i k) := by
  refine ⟨fun j => (F.1 j).wr W, fun j => (F.2.1 j).other W (Or.inr (slot_ne L1 L2 (by decide) (t := .int) (t' := .object "com/example/pentad/pentad/tx/TempId") (by decide) (by decide))), fun j => ?_⟩
  by_cases e : j = i
  · subst e
    have q : own_set par j k j = k := if_pos rfl
    rw [q]
    exact (F.2.2 j).same W
  · have q : own_set par i k j = par j := if_neg e
    rw [q]
    exact (F.2.2 j).other W (Or.inl fun z => e (inj _ _ z))
theorem own_For_keep {Z : State} {h h' : Heap} {t : Fin 4 → Addr} {ord : Fin 4 → Int32} {par : Fin 4 → Fin 4} {ws : List Addr} (F : own_For Z h t ord par) (K : Keep h h' ws) (q : ∀ i, t i ∉ ws) : own_For Z h' t ord par := ⟨fun i => (F.1 i).keep K, fun i => (F.2.1 i).keep K (q i), fun i => (F.2.2 i).keep K (q i)⟩
theorem own_all {t : Fin 4 → Addr} {n0 : Nat} (g0 : ∀ i, n0 ≤ t i) : ∀ x ∈ [t 0, t 1, t 2, t 3], n0 ≤ x := allS (g0 0) (allS (g0 1) (allS (g0 2) (allS (g0 3) all0)))
theorem own_memAll {t : Fin 4 → Addr} {h0 : Heap} : ∀ x ∈ [t 0, t 1, t 2, t 3], x ∈ [t 0, t 1, t 2, t 3] ∨ h0.size ≤ x := fun x q => Or.inl q
theorem d3_2 : decode prog_90_method_2_code 2 = .ok (.aload_n 1, 1) := by decide +kernel
theorem d3_3 : decode prog_90_method_2_code 3 = .ok (.getfield 7, 3) := by decide +kernel
theorem d3_6 : decode prog_90_method_2_code 6 = .ok (.aload_n 1, 1) := by decide +kernel
theorem d3_7 : decode prog_90_method_2_code 7 = .ok (.if_acmp .eq 11, 3) := by decide +kernel
theorem d3_10 : decode prog_90_method_2_code 10 = .ok (.aload_n 1, 1) := by decide +kernel
theorem d3_11 : decode prog_90_method_2_code 11 = .ok (.getfield 7, 3) := by decide +kernel
theorem d3_14 : decode prog_90_method_2_code 14 = .ok (.astore_n 1, 1) := by decide +kernel
theorem d3_15 : decode prog_90_method_2_code 15 = .ok (.goto (-13), 3) := by decide +kernel
set_option maxRecDepth 65536 in
set_option maxHeartbeats 40000000 in
theorem own_loop {p : Program} {l : Launch} {e : Env} {R : Room} {s : State} {m : MethodId} {args : Array Value} {below : List Frame} {meth : Method} {c : Code} {locs : List Loc} {cells slots : Nat} {Z : State} {a0 : Array Value} {h : Heap} (hw : ∀ d ∈ tables_1, d.before a0 Z = true) (t : Fin 4 → Addr) (ord : Fin 4 → Int32) (par rt : Fin 4 → Fin 4) (i : Fin 4) (I : own_Inv ord par rt) (F : own_For Z h t ord par) (inj : ∀ i j, t i = t j → i = j) (hx : p.tables.exec = Jvm.exec) (hZ : Z.Warmed39 s.vm) (hby : c.code = prog_90_method_2_code) (hown : s.vm.findClass "com/example/pentad/pentad/tx/TempId" = some m.cls) : ∀ (N : Nat) (j : Fin 4) (T : State), Stand p l e R s m args below meth c T locs cells slots → T.heap = h → ((ord j).toInt + 2147483648).toNat < N → ∃ T', Stand p l e R s m args below meth c T' locs cells slots ∧ T'.heap = h ∧ ∀ target, Steps p.tables e below (T'.setTop (mkF m 18 #[.val (.ref (t i)), .val (.ref (t (rt j)))] [])) target → Steps p.tables e below (T.setTop (mkF m 2 #[.val (.ref (t i)), .val (.ref (t j))] [])) target := by
  intro N
  induction N with
  | zero => intro j T X eT hN; omega
  | succ N ih =>
    intro j T X eT hN
    obtain ⟨T1001, X1001, e1001, st1001⟩ := getF X hx hZ hown (host := "") (Or.inl (hw _ (List.mem_of_getElem? (i := 11) rfl))) Via.refl eT (F.2.2 j) (g := (mkF m 3 #[.val (.ref (t i)), .val (.ref (t j))] [(.ref (t j))])) rfl rfl (hb hby d3_3)
    by_cases hp : par j = j
    · refine ⟨T1001, X1001, e1001, fun target kt => ?_⟩
      rw [I.2.2.1 j hp] at kt
      show Steps p.tables e below (T.setTop (mkF m 2 #[.val (.ref (t i)), .val (.ref (t j))] [])) _
      refine XS.aloadN X.here hx rfl (hb hby d3_2) rfl rfl ?_
      show Steps p.tables e below (T.setTop (mkF m 3 #[.val (.ref (t i)), .val (.ref (t j))] [(.ref (t j))])) _
      refine st1001 _ ?_
      show Steps p.tables e below (T1001.setTop (mkF m 6 #[.val (.ref (t i)), .val (.ref (t j))] [(.ref (t (par j)))])) _
      refine XS.aloadN X1001.here hx rfl (hb hby d3_6) rfl rfl ?_
      show Steps p.tables e below (T1001.setTop (mkF m 7 #[.val (.ref (t i)), .val (.ref (t j))] [(.ref (t j)), (.ref (t (par j)))])) _
      refine Jvm.RoadKit.acmp (g := (mkF m 7 #[.val (.ref (t i)), .val (.ref (t j))] [(.ref (t j)), (.ref (t (par j)))])) X1001 hx rfl rfl rfl (pc0 := 7) (pc' := 18) (same := true) rfl (hb hby d3_7) rfl (decide_eq_true (congrArg Value.ref (congrArg t hp))) (by decide) (by decide) ?_
      exact kt
    · have hlt : (ord (par j)).toInt < (ord j).toInt := (I.2.2.2.1 j).resolve_left hp
      have r1 := rng32 (ord (par j))
      have r2 := rng32 (ord j)
      obtain ⟨T1002, X1002, e1002, st1002⟩ := getF X1001 hx hZ hown (host := "") (Or.inl (hw _ (List.mem_of_getElem? (i := 11) rfl))) Via.refl e1001 (F.2.2 j) (g := (mkF m 11 #[.val (.ref (t i)), .val (.ref (t j))] [(.ref (t j))])) rfl rfl (hb hby d3_11)
      obtain ⟨T', X', e', st'⟩ := ih (par j) T1002 X1002 e1002 (by omega)
      rw [I.2.1 j] at st'
      refine ⟨T', X', e', fun target kt => ?_⟩
      show Steps p.tables e below (T.setTop (mkF m 2 #[.val (.ref (t i)), .val (.ref (t j))] [])) _
      refine XS.aloadN X.here hx rfl (hb hby d3_2) rfl rfl ?_
      show Steps p.tables e below (T.setTop (mkF m 3 #[.val (.ref (t i)), .val (.ref (t j))] [(.ref (t j))])) _
      refine st1001 _ ?_
      show Steps p.tables e below (T1001.setTop (mkF m 6 #[.val (.ref (t i)), .val (.ref (t j))] [(.ref (t (par j)))])) _
      refine XS.aloadN X1001.here hx rfl (hb hby d3_6) rfl rfl ?_
      show Steps p.tables e below (T1001.setTop (mkF m 7 #[.val (.ref (t i)), .val (.ref (t j))] [(.ref (t j)), (.ref (t (par j)))])) _
      refine Jvm.RoadKit.acmp (g := (mkF m 7 #[.val (.ref (t i)), .val (.ref (t j))] [(.ref (t j)), (.ref (t (par j)))])) X1001 hx rfl rfl rfl (pc0 := 7) (pc' := 10) (same := false) rfl (hb hby d3_7) rfl (decide_eq_false fun q => (fun q => hp (inj _ _ q)) (Value.ref.inj q)) (by decide) (by decide) ?_
      show Steps p.tables e below (T1001.setTop (mkF m 10 #[.val (.ref (t i)), .val (.ref (t j))] [])) _
      refine XS.aloadN X1001.here hx rfl (hb hby d3_10) rfl rfl ?_
      show Steps p.tables e below (T1001.setTop (mkF m 11 #[.val (.ref (t i)), .val (.ref (t j))] [(.ref (t j))])) _
      refine st1002 _ ?_
      show Steps p.tables e below (T1002.setTop (mkF m 14 #[.val (.ref (t i)), .val (.ref (t j))] [(.ref (t (par j)))])) _
      refine XS.astoreN X1002.here hx rfl (hb hby d3_14) rfl rfl (l' := #[.val (.ref (t i)), .val (.ref (t (par j)))]) rfl ?_
      show Steps p.tables e below (T1002.setTop (mkF m 15 #[.val (.ref (t i)), .val (.ref (t (par j)))] [])) _
      refine XS.goto X1002.here hx rfl (pc0 := 15) (pc' := 2) rfl (hb hby d3_15) (by decide) (by decide) ?_
      exact st' _ kt
theorem ef_root (m : MethodId) (x0 : Addr) : entryFrame m #[.ref x0] 2 = mkF m 0 #[.val (.ref x0), .unset] [] := by first | (simp [entryFrame, mkF, argsToLocals, Value.category]; done) | rfl
theorem d3_0 : decode prog_90_method_2_code 0 = .ok (.aload_n 0, 1) := by decide +kernel
theorem d3_1 : decode prog_90_method_2_code 1 = .ok (.astore_n 1, 1) := by decide +kernel
theorem d3_18 : decode prog_90_method_2_code 18 = .ok (.aload_n 0, 1) := by decide +kernel
theorem d3_19 : decode prog_90_method_2_code 19 = .ok (.aload_n 1, 1) := by decide +kernel
theorem d3_20 : decode prog_90_method_2_code 20 = .ok (.putfield 7, 3) := by decide +kernel
theorem d3_23 : decode prog_90_method_2_code 23 = .ok (.aload_n 1, 1) := by decide +kernel
theorem d3_24 : decode prog_90_method_2_code 24 = .ok (.areturn, 1) := by decide +kernel
theorem pn_0 : plainName "com/example/pentad/pentad/tx/TempId" = true := by first | (simp [plainName, overriddenIn]; done) | decide +kernel
def Qown_root (Z : State) (t : Fin 4 → Addr) (ord : Fin 4 → Int32) (par rt : Fin 4 → Fin 4) (i : Fin 4) (h0 : Heap) (n0 : Nat) (v : Option Value) (h : Heap) (L : List Loc) : Prop := v = some (.ref (t (rt i))) ∧ Fr n0 L ∧ Keep h0 h [t 0, t 1, t 2, t 3] ∧ own_For Z h t ord (own_set par i (rt i))
set_option maxRecDepth 65536 in
set_option maxHeartbeats 40000000 in
theorem own_root (l : Launch) (Z : State) (a0 : Array Value) (hw : ∀ d ∈ tables_1, d.before a0 Z = true) (ws : List Jvm.Cond) (t : Fin 4 → Addr) (ord : Fin 4 → Int32) (par rt : Fin 4 → Fin 4) (i : Fin 4) (h0 : Heap) (n0 : Nat) (O0 : Old Z n0 h0) (F : own_For Z h0 t ord par) (I : own_Inv ord par rt) (inj : ∀ i j, t i = t j → i = j) (g0 : ∀ i, n0 ≤ t i) :
    MetFree l (⟨"com/example/pentad/pentad/tx/TempId", "root", "()Lcom/example/pentad/pentad/tx/TempId;"⟩ : MethodName) (head1 (Jvm.Cond.code (⟨"com/example/pentad/pentad/tx/TempId", "root", "()Lcom/example/pentad/pentad/tx/TempId;"⟩ : MethodName) prog_90_method_2_code 2 (some (.object "com/example/pentad/pentad/tx/TempId")) :: ws) ({ frames := 0, cells := 0, slots := 0, locals := 0 } : Room)) (fun a U => a = #[.ref (t i)] ∧ Z.Warmed39 U.vm ∧ U.heap = h0) (fun _ _ _ _ _ => True) (fun _ U o U' => ∃ v L, o = .returned v ∧ Qown_root Z t ord par rt i h0 n0 v U'.heap L ∧ FrameEnd U o U' L ({ frames := 0, cells := 0, slots := 0, locals := 0 } : Room).cells ({ frames := 0, cells := 0, slots := 0, locals := 0 } : Room).slots) := by
  refine MetFree.of_bodySF (plainFor_of_name pn_0) hisR ?_
  intro p e s m args below meth c s₁ Bd hml0 hP hK
  obtain ⟨rfl, hZ, hh⟩ := hP
  have hx := Bd.exec
  have hby := Bd.bytes
  have hml : c.maxLocals = 2 := hml0
  have hown : s.vm.findClass "com/example/pentad/pentad/tx/TempId" = some m.cls := findClass_of_methodNamed Bd.named
  have hnm := (name_of_methodNamed Bd.named Bd.method).1
  have X0 : Stand p l e ({ frames := 0, cells := 0, slots := 0, locals := 0 } : Room) s m #[.ref (t i)] below meth c s₁ [] 0 0 := Stand.of_body Bd
  have e0 : s₁.heap = h0 := by rw [← hh, Bd.state]; rfl
  have N0 := Fr.nil n0
  have pre0 : ∀ tgt, Steps p.tables e below (s₁.setTop (mkF m 0 #[.val (.ref (t i)), .unset] [])) tgt → Steps p.tables e below (s₁.setTop (entryFrame m #[.ref (t i)] 2)) tgt := fun tgt k => castTop (ef_root m (t i)) k
  obtain ⟨Tl, Xl, el, stl⟩ := own_loop hw t ord par rt i I F inj hx hZ hby hown _ i s₁ X0 e0 (Nat.lt_succ_self _)
  obtain ⟨T1003, h1003, X1003, e1003, W1003, st1003⟩ := putF Xl hx hZ hown (host := "") (Or.inl (hw _ (List.mem_of_getElem? (i := 11) rfl))) Via.refl el (F.2.2 i) (F.1 i) (Or.inl (hw _ (List.mem_of_getElem? (i := 12) rfl))) (hw _ (List.mem_of_getElem? (i := 3) rfl)) (ty := (.object "com/example/pentad/pentad/tx/TempId")) (by decide) rfl rfl (g := (mkF m 20 #[.val (.ref (t i)), .val (.ref (t (rt i)))] [(.ref (t (rt i))), (.ref (t i))])) rfl rfl (hb hby d3_20)
  have N1003 := Fr.snoc X1003 N0 (g0 i)
  have F2 := own_For_set (a0 := a0) F inj (Or.inr (hw _ (List.mem_of_getElem? (i := 14) rfl))) (Or.inl (hw _ (List.mem_of_getElem? (i := 12) rfl))) W1003
  have K2 : Keep h0 h1003 [t 0, t 1, t 2, t 3] := (Keep.refl h0 _).wr W1003 (Or.inl (own_mem t i))
  obtain ⟨fs, hr, hrun, hended, hW, hsame⟩ := X1003.leave (v := some (.ref (t (rt i)))) (fun h => by rw [Bd.returns] at h; cases h)
  refine ⟨_, _, pre0 _ ?_, hrun, hended, _, _, rfl, ?_, ⟨_, rfl⟩, hW, hsame.mono (by decide) (by decide)⟩
  · show Steps p.tables e below (s₁.setTop (mkF m 0 #[.val (.ref (t i)), .unset] [])) _
    refine XS.aloadN X0.here hx rfl (hb hby d3_0) rfl rfl ?_
    show Steps p.tables e below (s₁.setTop (mkF m 1 #[.val (.ref (t i)), .unset] [(.ref (t i))])) _
    refine XS.astoreN X0.here hx rfl (hb hby d3_1) rfl rfl (l' := #[.val (.ref (t i)), .val (.ref (t i))]) rfl ?_
    show Steps p.tables e below (s₁.setTop (mkF m 2 #[.val (.ref (t i)), .val (.ref (t i))] [])) _
    refine stl _ ?_
    show Steps p.tables e below (Tl.setTop (mkF m 18 #[.val (.ref (t i)), .val (.ref (t (rt i)))] [])) _
    refine XS.aloadN Xl.here hx rfl (hb hby d3_18) rfl rfl ?_
    show Steps p.tables e below (Tl.setTop (mkF m 19 #[.val (.ref (t i)), .val (.ref (t (rt i)))] [(.ref (t i))])) _
    refine XS.aloadN Xl.here hx rfl (hb hby d3_19) rfl rfl ?_
    show Steps p.tables e below (Tl.setTop (mkF m 20 #[.val (.ref (t i)), .val (.ref (t (rt i)))] [(.ref (t (rt i))), (.ref (t i))])) _
    refine st1003 _ ?_
    show Steps p.tables e below (T1003.setTop (mkF m 23 #[.val (.ref (t i)), .val (.ref (t (rt i)))] [])) _
    refine XS.aloadN X1003.here hx rfl (hb hby d3_23) rfl rfl ?_
    show Steps p.tables e below (T1003.setTop (mkF m 24 #[.val (.ref (t i)), .val (.ref (t (rt i)))] [(.ref (t (rt i)))])) _
    jvm_step X1003.here [X1003.here.top, hx, (hb hby d3_24), X1003.method', Bd.returns, Value.isRef, FieldType.isReference]
    first | (intro acts; rw [hr _ acts rfl rfl rfl]) | rw [hr _ _ rfl rfl rfl]
    exact Steps.refl _
  · show Qown_root Z t ord par rt i h0 n0 _ T1003.heap _
    rw [e1003]
    exact ⟨rfl, N1003, K2, F2⟩
theorem ef_unite (m : MethodId) (x0 x1 : Addr) : entryFrame m #[.ref x0, .ref x1] 4 = mkF m 0 #[.val (.ref x0), .val (.ref x1), .unset, .unset] [] := by first | (simp [entryFrame, mkF, argsToLocals, Value.category]; done) | rfl
theorem d5_0 : decode prog_90_method_3_code 0 = .ok (.aload_n 0, 1) := by decide +kernel
theorem d5_1 : decode prog_90_method_3_code 1 = .ok (.invokevirtual 17, 3) := by decide +kernel
theorem pd_1 : parseMethodDescriptor "()Lcom/example/pentad/pentad/tx/TempId;" = some ⟨[], some (.object "com/example/pentad/pentad/tx/TempId")⟩ := by decide +kernel
theorem d5_4 : decode prog_90_method_3_code 4 = .ok (.astore_n 2, 1) := by decide +kernel
theorem d5_5 : decode prog_90_method_3_code 5 = .ok (.aload_n 1, 1) := by decide +kernel
theorem d5_6 : decode prog_90_method_3_code 6 = .ok (.invokevirtual 17, 3) := by decide +kernel
theorem d5_9 : decode prog_90_method_3_code 9 = .ok (.astore_n 3, 1) := by decide +kernel
theorem d5_10 : decode prog_90_method_3_code 10 = .ok (.aload_n 2, 1) := by decide +kernel
theorem d5_11 : decode prog_90_method_3_code 11 = .ok (.getfield 13, 3) := by decide +kernel
theorem d5_14 : decode prog_90_method_3_code 14 = .ok (.aload_n 3, 1) := by decide +kernel
theorem d5_15 : decode prog_90_method_3_code 15 = .ok (.getfield 13, 3) := by decide +kernel
theorem d5_18 : decode prog_90_method_3_code 18 = .ok (.if_icmp .ge 11, 3) := by decide +kernel
theorem d5_21 : decode prog_90_method_3_code 21 = .ok (.aload_n 3, 1) := by decide +kernel
theorem d5_22 : decode prog_90_method_3_code 22 = .ok (.aload_n 2, 1) := by decide +kernel
theorem d5_23 : decode prog_90_method_3_code 23 = .ok (.putfield 7, 3) := by decide +kernel
theorem d5_26 : decode prog_90_method_3_code 26 = .ok (.goto 8, 3) := by decide +kernel
theorem d5_34 : decode prog_90_method_3_code 34 = .ok (.return_, 1) := by decide +kernel
theorem d5_29 : decode prog_90_method_3_code 29 = .ok (.aload_n 2, 1) := by decide +kernel
theorem d5_30 : decode prog_90_method_3_code 30 = .ok (.aload_n 3, 1) := by decide +kernel
theorem d5_31 : decode prog_90_method_3_code 31 = .ok (.putfield 7, 3) := by decide +kernel
theorem own_ge {ord : Fin 4 → Int32} (injO : ∀ k l, ord k = ord l → k = l) {a b : Fin 4} (h : ¬ ord a < ord b) : b = a ∨ (ord b).toInt < (ord a).toInt := by
  rw [Int32.lt_iff_toInt_lt] at h
  by_cases e : (ord b).toInt = (ord a).toInt
  · exact Or.inl (injO _ _ (Int32.toInt_inj.mp e))
  · exact Or.inr (by omega)
def Qown_unite (Z : State) (t : Fin 4 → Addr) (ord : Fin 4 → Int32) (par rt : Fin 4 → Fin 4) (i j : Fin 4) (h0 : Heap) (n0 : Nat) (v : Option Value) (h : Heap) (L : List Loc) : Prop := v = none ∧ Fr n0 L ∧ Keep h0 h [t 0, t 1, t 2, t 3] ∧ ∃ par' rt', own_For Z h t ord par' ∧ own_Inv ord par' rt' ∧ ∀ g, own_Cls g rt → own_Cls (own_jn g i j) rt'
set_option maxRecDepth 65536 in
set_option maxHeartbeats 40000000 in
theorem own_unite (l : Launch) (Z : State) (a0 : Array Value) (hw : ∀ d ∈ tables_1, d.before a0 Z = true) (ws : List Jvm.Cond) (t : Fin 4 → Addr) (ord : Fin 4 → Int32) (par rt : Fin 4 → Fin 4) (i j : Fin 4) (h0 : Heap) (n0 : Nat) (O0 : Old Z n0 h0) (F : own_For Z h0 t ord par) (I : own_Inv ord par rt) (inj : ∀ i j, t i = t j → i = j) (g0 : ∀ i, n0 ≤ t i) (injO : ∀ k l, ord k = ord l → k = l) :
    MetFree l (⟨"com/example/pentad/pentad/tx/TempId", "unite", "(Lcom/example/pentad/pentad/tx/TempId;)V"⟩ : MethodName) (head1 (Jvm.Cond.code (⟨"com/example/pentad/pentad/tx/TempId", "unite", "(Lcom/example/pentad/pentad/tx/TempId;)V"⟩ : MethodName) prog_90_method_3_code 4 none :: ws) ({ frames := 1, cells := 0, slots := 0, locals := 13 } : Room)) (fun a U => a = #[.ref (t i), .ref (t j)] ∧ Z.Warmed39 U.vm ∧ U.heap = h0) (fun _ _ _ _ _ => True) (fun _ U o U' => ∃ v L, o = .returned v ∧ Qown_unite Z t ord par rt i j h0 n0 v U'.heap L ∧ FrameEnd U o U' L ({ frames := 1, cells := 0, slots := 0, locals := 13 } : Room).cells ({ frames := 1, cells := 0, slots := 0, locals := 13 } : Room).slots) := by
  refine MetFree.of_bodySF (plainFor_of_name pn_0) hisR ?_
  intro p e s m args below meth c s₁ Bd hml0 hP hK
  obtain ⟨rfl, hZ, hh⟩ := hP
  have hx := Bd.exec
  have hby := Bd.bytes
  have hml : c.maxLocals = 4 := hml0
  have hown : s.vm.findClass "com/example/pentad/pentad/tx/TempId" = some m.cls := findClass_of_methodNamed Bd.named
  have hnm := (name_of_methodNamed Bd.named Bd.method).1
  have X0 : Stand p l e ({ frames := 1, cells := 0, slots := 0, locals := 13 } : Room) s m #[.ref (t i), .ref (t j)] below meth c s₁ [] 0 0 := Stand.of_body Bd
  have e0 : s₁.heap = h0 := by rw [← hh, Bd.state]; rfl
  have N0 := Fr.nil n0
  have pre0 : ∀ tgt, Steps p.tables e below (s₁.setTop (mkF m 0 #[.val (.ref (t i)), .val (.ref (t j)), .unset, .unset] [])) tgt → Steps p.tables e below (s₁.setTop (entryFrame m #[.ref (t i), .ref (t j)] 4)) tgt := fun tgt k => castTop (ef_unite m (t i) (t j)) k
  obtain ⟨cqr1, kqr1, qr1a, qr1b, qr1c⟩ := isOf hZ e0 (F.1 i)
  obtain ⟨_, _, ⟨Tr1, Lr1, kr1, nr1⟩, -, Xr1, ⟨Lcr1, hQr1, lr1, yr1, zr1⟩, str1⟩ := X0.virtualBack hx (y := (⟨"com/example/pentad/pentad/tx/TempId", "root", "()Lcom/example/pentad/pentad/tx/TempId;"⟩ : MethodName)) (z := (⟨"com/example/pentad/pentad/tx/TempId", "root", "()Lcom/example/pentad/pentad/tx/TempId;"⟩ : MethodName)) hown (mvT hZ (hw _ (List.mem_of_getElem? (i := 30) rfl))) (mvT hZ (hw _ (List.mem_of_getElem? (i := 17) rfl))) (notFace_of_selects (args := #[]) (mvT hZ (hw _ (List.mem_of_getElem? (i := 19) rfl)))) (mvT hZ (hw _ (List.mem_of_getElem? (i := 19) rfl))) (mvT hZ (hw _ (List.mem_of_getElem? (i := 18) rfl))) (by decide) (backOf (W := 0) (own_root l Z a0 hw [] t ord par rt i h0 n0 O0 F I inj g0) hZ (hw _ (List.mem_of_getElem? (i := 20) rfl)) (hw _ (List.mem_of_getElem? (i := 4) rfl)) (by decide) (by decide)) qr1a qr1c (g := (mkF m 1 #[.val (.ref (t i)), .val (.ref (t j)), .unset, .unset] [(.ref (t i))])) rfl (by rw [hml]; rfl) (Steps.refl _) (argsL := []) (rest := []) (lenOf pd_1 rfl) rfl (by show 2 * 0 + _ ≤ _; exact Nat.le_of_eq rfl) (hb hby d5_1) (fun _ _ => ⟨rfl, e0, (by decide : 0 + 0 ≤ _), (by decide : 0 + 0 ≤ _)⟩)
  dsimp only [Pt.U, Pt.locs, Pt.cells, Pt.slots] at Xr1 lr1 yr1 zr1 str1 hQr1
  subst lr1 yr1 zr1
  obtain ⟨rfl, Nqr1, Kr1, Fr1⟩ := hQr1
  have Nr1 := Fr.app N0 Nqr1
  have Or1 : Old Z n0 Tr1.heap := O0.keep Kr1 (own_all g0)
  have Ir1 := own_inv_root I i
  obtain ⟨cqr2, kqr2, qr2a, qr2b, qr2c⟩ := isOf hZ rfl (Fr1.1 j)
  obtain ⟨_, _, ⟨Tr2, Lr2, kr2, nr2⟩, -, Xr2, ⟨Lcr2, hQr2, lr2, yr2, zr2⟩, str2⟩ := Xr1.virtualBack hx (y := (⟨"com/example/pentad/pentad/tx/TempId", "root", "()Lcom/example/pentad/pentad/tx/TempId;"⟩ : MethodName)) (z := (⟨"com/example/pentad/pentad/tx/TempId", "root", "()Lcom/example/pentad/pentad/tx/TempId;"⟩ : MethodName)) hown (mvT hZ (hw _ (List.mem_of_getElem? (i := 30) rfl))) (mvT hZ (hw _ (List.mem_of_getElem? (i := 17) rfl))) (notFace_of_selects (args := #[]) (mvT hZ (hw _ (List.mem_of_getElem? (i := 19) rfl)))) (mvT hZ (hw _ (List.mem_of_getElem? (i := 19) rfl))) (mvT hZ (hw _ (List.mem_of_getElem? (i := 18) rfl))) (by decide) (backOf (W := 0) (own_root l Z a0 hw [] t ord (own_set par i (rt i)) rt j Tr1.heap n0 Or1 Fr1 Ir1 inj g0) hZ (hw _ (List.mem_of_getElem? (i := 20) rfl)) (hw _ (List.mem_of_getElem? (i := 4) rfl)) (by decide) (by decide)) qr2a qr2c (g := (mkF m 6 #[.val (.ref (t i)), .val (.ref (t j)), .val (.ref (t (rt i))), .unset] [(.ref (t j))])) rfl (by rw [hml]; rfl) (Steps.refl _) (argsL := []) (rest := []) (lenOf pd_1 rfl) rfl (by show 2 * 0 + _ ≤ _; exact Nat.le_of_eq rfl) (hb hby d5_6) (fun _ _ => ⟨rfl, rfl, (by decide : 0 + 0 ≤ _), (by decide : 0 + 0 ≤ _)⟩)
  dsimp only [Pt.U, Pt.locs, Pt.cells, Pt.slots] at Xr2 lr2 yr2 zr2 str2 hQr2
  subst lr2 yr2 zr2
  obtain ⟨rfl, Nqr2, Kr2, Fr2⟩ := hQr2
  have Nr2 := Fr.app Nr1 Nqr2
  have Or2 : Old Z n0 Tr2.heap := Or1.keep Kr2 (own_all g0)
  have Ir2 := own_inv_root Ir1 j
  obtain ⟨T1004, X1004, e1004, st1004⟩ := getF Xr2 hx hZ hown (host := "") (Or.inl (hw _ (List.mem_of_getElem? (i := 13) rfl))) Via.refl rfl (Fr2.2.1 (rt i)) (g := (mkF m 11 #[.val (.ref (t i)), .val (.ref (t j)), .val (.ref (t (rt i))), .val (.ref (t (rt j)))] [(.ref (t (rt i)))])) rfl rfl (hb hby d5_11)
  obtain ⟨T1005, X1005, e1005, st1005⟩ := getF X1004 hx hZ hown (host := "") (Or.inl (hw _ (List.mem_of_getElem? (i := 13) rfl))) Via.refl e1004 (Fr2.2.1 (rt j)) (g := (mkF m 15 #[.val (.ref (t i)), .val (.ref (t j)), .val (.ref (t (rt i))), .val (.ref (t (rt j)))] [(.ref (t (rt j))), (.int (ord (rt i)))])) rfl rfl (hb hby d5_15)
  by_cases hlt : ord (rt i) < ord (rt j)
  · obtain ⟨T1006, h1006, X1006, e1006, W1006, st1006⟩ := putF X1005 hx hZ hown (host := "") (Or.inl (hw _ (List.mem_of_getElem? (i := 11) rfl))) Via.refl e1005 (Fr2.2.2 (rt j)) (Fr2.1 (rt j)) (Or.inl (hw _ (List.mem_of_getElem? (i := 12) rfl))) (hw _ (List.mem_of_getElem? (i := 3) rfl)) (ty := (.object "com/example/pentad/pentad/tx/TempId")) (by decide) rfl rfl (g := (mkF m 23 #[.val (.ref (t i)), .val (.ref (t j)), .val (.ref (t (rt i))), .val (.ref (t (rt j)))] [(.ref (t (rt i))), (.ref (t (rt j)))])) rfl rfl (hb hby d5_23)
    have N1006 := Fr.snoc X1006 Nr2 (g0 (rt j))
    have F9 := own_For_set (a0 := a0) Fr2 inj (Or.inr (hw _ (List.mem_of_getElem? (i := 14) rfl))) (Or.inl (hw _ (List.mem_of_getElem? (i := 12) rfl))) W1006
    have K9 : Keep h0 h1006 [t 0, t 1, t 2, t 3] := ((Kr1.trans Kr2 own_memAll).wr W1006 (Or.inl (own_mem t _)))
    have I9 := own_inv_link Ir2 (rt i) (rt j) (own_rtrt I i) (own_rtrt I j) (Or.inr (Int32.lt_iff_toInt_lt.mp hlt))
    obtain ⟨fs, hr, hrun, hended, hW, hsame⟩ := X1006.leave (v := none) (fun _ => rfl)
    refine ⟨_, _, pre0 _ ?_, hrun, hended, _, _, rfl, ?_, ⟨_, rfl⟩, hW, hsame.mono (by decide) (by decide)⟩
    · show Steps p.tables e below (s₁.setTop (mkF m 0 #[.val (.ref (t i)), .val (.ref (t j)), .unset, .unset] [])) _
      refine XS.aloadN X0.here hx rfl (hb hby d5_0) rfl rfl ?_
      show Steps p.tables e below (s₁.setTop (mkF m 1 #[.val (.ref (t i)), .val (.ref (t j)), .unset, .unset] [(.ref (t i))])) _
      refine str1.trans ?_
      show Steps p.tables e below (Tr1.setTop (mkF m 4 #[.val (.ref (t i)), .val (.ref (t j)), .unset, .unset] [(.ref (t (rt i)))])) _
      refine XS.astoreN Xr1.here hx rfl (hb hby d5_4) rfl rfl (l' := #[.val (.ref (t i)), .val (.ref (t j)), .val (.ref (t (rt i))), .unset]) rfl ?_
      show Steps p.tables e below (Tr1.setTop (mkF m 5 #[.val (.ref (t i)), .val (.ref (t j)), .val (.ref (t (rt i))), .unset] [])) _
      refine XS.aloadN Xr1.here hx rfl (hb hby d5_5) rfl rfl ?_
      show Steps p.tables e below (Tr1.setTop (mkF m 6 #[.val (.ref (t i)), .val (.ref (t j)), .val (.ref (t (rt i))), .unset] [(.ref (t j))])) _
      refine str2.trans ?_
      show Steps p.tables e below (Tr2.setTop (mkF m 9 #[.val (.ref (t i)), .val (.ref (t j)), .val (.ref (t (rt i))), .unset] [(.ref (t (rt j)))])) _
      refine XS.astoreN Xr2.here hx rfl (hb hby d5_9) rfl rfl (l' := #[.val (.ref (t i)), .val (.ref (t j)), .val (.ref (t (rt i))), .val (.ref (t (rt j)))]) rfl ?_
      show Steps p.tables e below (Tr2.setTop (mkF m 10 #[.val (.ref (t i)), .val (.ref (t j)), .val (.ref (t (rt i))), .val (.ref (t (rt j)))] [])) _
      refine XS.aloadN Xr2.here hx rfl (hb hby d5_10) rfl rfl ?_
      show Steps p.tables e below (Tr2.setTop (mkF m 11 #[.val (.ref (t i)), .val (.ref (t j)), .val (.ref (t (rt i))), .val (.ref (t (rt j)))] [(.ref (t (rt i)))])) _
      refine st1004 _ ?_
      show Steps p.tables e below (T1004.setTop (mkF m 14 #[.val (.ref (t i)), .val (.ref (t j)), .val (.ref (t (rt i))), .val (.ref (t (rt j)))] [(.int (ord (rt i)))])) _
      refine XS.aloadN X1004.here hx rfl (hb hby d5_14) rfl rfl ?_
      show Steps p.tables e below (T1004.setTop (mkF m 15 #[.val (.ref (t i)), .val (.ref (t j)), .val (.ref (t (rt i))), .val (.ref (t (rt j)))] [(.ref (t (rt j))), (.int (ord (rt i)))])) _
      refine st1005 _ ?_
      show Steps p.tables e below (T1005.setTop (mkF m 18 #[.val (.ref (t i)), .val (.ref (t j)), .val (.ref (t (rt i))), .val (.ref (t (rt j)))] [(.int (ord (rt j))), (.int (ord (rt i)))])) _
      refine XS.icmpNo X1005.here hx rfl (hb hby d5_18) rfl (tlt (hlt : (ord (rt i)) < (ord (rt j)))).2.1 ?_
      show Steps p.tables e below (T1005.setTop (mkF m 21 #[.val (.ref (t i)), .val (.ref (t j)), .val (.ref (t (rt i))), .val (.ref (t (rt j)))] [])) _
      refine XS.aloadN X1005.here hx rfl (hb hby d5_21) rfl rfl ?_
      show Steps p.tables e below (T1005.setTop (mkF m 22 #[.val (.ref (t i)), .val (.ref (t j)), .val (.ref (t (rt i))), .val (.ref (t (rt j)))] [(.ref (t (rt j)))])) _
      refine XS.aloadN X1005.here hx rfl (hb hby d5_22) rfl rfl ?_
      show Steps p.tables e below (T1005.setTop (mkF m 23 #[.val (.ref (t i)), .val (.ref (t j)), .val (.ref (t (rt i))), .val (.ref (t (rt j)))] [(.ref (t (rt i))), (.ref (t (rt j)))])) _
      refine st1006 _ ?_
      show Steps p.tables e below (T1006.setTop (mkF m 26 #[.val (.ref (t i)), .val (.ref (t j)), .val (.ref (t (rt i))), .val (.ref (t (rt j)))] [])) _
      refine XS.goto X1006.here hx rfl (pc0 := 26) (pc' := 34) rfl (hb hby d5_26) (by decide) (by decide) ?_
      show Steps p.tables e below (T1006.setTop (mkF m 34 #[.val (.ref (t i)), .val (.ref (t j)), .val (.ref (t (rt i))), .val (.ref (t (rt j)))] [])) _
      exact X1006.returnOut hx Bd.returns (hb hby d5_34) hr
    · show Qown_unite Z t ord par rt i j h0 n0 _ T1006.heap _
      rw [e1006]
      exact ⟨rfl, N1006, K9, _, _, F9, I9, fun g H => own_cls_join H i j⟩
  · obtain ⟨T1007, h1007, X1007, e1007, W1007, st1007⟩ := putF X1005 hx hZ hown (host := "") (Or.inl (hw _ (List.mem_of_getElem? (i := 11) rfl))) Via.refl e1005 (Fr2.2.2 (rt i)) (Fr2.1 (rt i)) (Or.inl (hw _ (List.mem_of_getElem? (i := 12) rfl))) (hw _ (List.mem_of_getElem? (i := 3) rfl)) (ty := (.object "com/example/pentad/pentad/tx/TempId")) (by decide) rfl rfl (g := (mkF m 31 #[.val (.ref (t i)), .val (.ref (t j)), .val (.ref (t (rt i))), .val (.ref (t (rt j)))] [(.ref (t (rt j))), (.ref (t (rt i)))])) rfl rfl (hb hby d5_31)
    have N1007 := Fr.snoc X1007 Nr2 (g0 (rt i))
    have F9 := own_For_set (a0 := a0) Fr2 inj (Or.inr (hw _ (List.mem_of_getElem? (i := 14) rfl))) (Or.inl (hw _ (List.mem_of_getElem? (i := 12) rfl))) W1007
    have K9 : Keep h0 h1007 [t 0, t 1, t 2, t 3] := ((Kr1.trans Kr2 own_memAll).wr W1007 (Or.inl (own_mem t _)))
    have I9 := own_inv_link Ir2 (rt j) (rt i) (own_rtrt I j) (own_rtrt I i) (own_ge injO hlt)
    obtain ⟨fs, hr, hrun, hended, hW, hsame⟩ := X1007.leave (v := none) (fun _ => rfl)
    refine ⟨_, _, pre0 _ ?_, hrun, hended, _, _, rfl, ?_, ⟨_, rfl⟩, hW, hsame.mono (by decide) (by decide)⟩
    · show Steps p.tables e below (s₁.setTop (mkF m 0 #[.val (.ref (t i)), .val (.ref (t j)), .unset, .unset] [])) _
      refine XS.aloadN X0.here hx rfl (hb hby d5_0) rfl rfl ?_
      show Steps p.tables e below (s₁.setTop (mkF m 1 #[.val (.ref (t i)), .val (.ref (t j)), .unset, .unset] [(.ref (t i))])) _
      refine str1.trans ?_
      show Steps p.tables e below (Tr1.setTop (mkF m 4 #[.val (.ref (t i)), .val (.ref (t j)), .unset, .unset] [(.ref (t (rt i)))])) _
      refine XS.astoreN Xr1.here hx rfl (hb hby d5_4) rfl rfl (l' := #[.val (.ref (t i)), .val (.ref (t j)), .val (.ref (t (rt i))), .unset]) rfl ?_
      show Steps p.tables e below (Tr1.setTop (mkF m 5 #[.val (.ref (t i)), .val (.ref (t j)), .val (.ref (t (rt i))), .unset] [])) _
      refine XS.aloadN Xr1.here hx rfl (hb hby d5_5) rfl rfl ?_
      show Steps p.tables e below (Tr1.setTop (mkF m 6 #[.val (.ref (t i)), .val (.ref (t j)), .val (.ref (t (rt i))), .unset] [(.ref (t j))])) _
      refine str2.trans ?_
      show Steps p.tables e below (Tr2.setTop (mkF m 9 #[.val (.ref (t i)), .val (.ref (t j)), .val (.ref (t (rt i))), .unset] [(.ref (t (rt j)))])) _
      refine XS.astoreN Xr2.here hx rfl (hb hby d5_9) rfl rfl (l' := #[.val (.ref (t i)), .val (.ref (t j)), .val (.ref (t (rt i))), .val (.ref (t (rt j)))]) rfl ?_
      show Steps p.tables e below (Tr2.setTop (mkF m 10 #[.val (.ref (t i)), .val (.ref (t j)), .val (.ref (t (rt i))), .val (.ref (t (rt j)))] [])) _
      refine XS.aloadN Xr2.here hx rfl (hb hby d5_10) rfl rfl ?_
      show Steps p.tables e below (Tr2.setTop (mkF m 11 #[.val (.ref (t i)), .val (.ref (t j)), .val (.ref (t (rt i))), .val (.ref (t (rt j)))] [(.ref (t (rt i)))])) _
      refine st1004 _ ?_
      show Steps p.tables e below (T1004.setTop (mkF m 14 #[.val (.ref (t i)), .val (.ref (t j)), .val (.ref (t (rt i))), .val (.ref (t (rt j)))] [(.int (ord (rt i)))])) _
      refine XS.aloadN X1004.here hx rfl (hb hby d5_14) rfl rfl ?_
      show Steps p.tables e below (T1004.setTop (mkF m 15 #[.val (.ref (t i)), .val (.ref (t j)), .val (.ref (t (rt i))), .val (.ref (t (rt j)))] [(.ref (t (rt j))), (.int (ord (rt i)))])) _
      refine st1005 _ ?_
      show Steps p.tables e below (T1005.setTop (mkF m 18 #[.val (.ref (t i)), .val (.ref (t j)), .val (.ref (t (rt i))), .val (.ref (t (rt j)))] [(.int (ord (rt j))), (.int (ord (rt i)))])) _
      refine XS.icmpYes X1005.here hx rfl (pc0 := 18) (pc' := 29) rfl (hb hby d5_18) rfl (flt (hlt : ¬ ((ord (rt i)) < (ord (rt j))))).2.1 (by decide) (by decide) ?_
      show Steps p.tables e below (T1005.setTop (mkF m 29 #[.val (.ref (t i)), .val (.ref (t j)), .val (.ref (t (rt i))), .val (.ref (t (rt j)))] [])) _
      refine XS.aloadN X1005.here hx rfl (hb hby d5_29) rfl rfl ?_
      show Steps p.tables e below (T1005.setTop (mkF m 30 #[.val (.ref (t i)), .val (.ref (t j)), .val (.ref (t (rt i))), .val (.ref (t (rt j)))] [(.ref (t (rt i)))])) _
      refine XS.aloadN X1005.here hx rfl (hb hby d5_30) rfl rfl ?_
      show Steps p.tables e below (T1005.setTop (mkF m 31 #[.val (.ref (t i)), .val (.ref (t j)), .val (.ref (t (rt i))), .val (.ref (t (rt j)))] [(.ref (t (rt j))), (.ref (t (rt i)))])) _
      refine st1007 _ ?_
      show Steps p.tables e below (T1007.setTop (mkF m 34 #[.val (.ref (t i)), .val (.ref (t j)), .val (.ref (t (rt i))), .val (.ref (t (rt j)))] [])) _
      exact X1007.returnOut hx Bd.returns (hb hby d5_34) hr
    · show Qown_unite Z t ord par rt i j h0 n0 _ T1007.heap _
      rw [e1007]
      exact ⟨rfl, N1007, K9, _, _, F9, I9, fun g H => own_cls_join' H i j⟩
theorem d4_2 : decode method_4_code 2 = .ok (.aload_n 0, 1) := by decide +kernel
theorem d4_3 : decode method_4_code 3 = .ok (.iconst 0, 1) := by decide +kernel
theorem d4_4 : decode method_4_code 4 = .ok (.iaload, 1) := by decide +kernel
theorem d4_5 : decode method_4_code 5 = .ok (.aload_n 0, 1) := by decide +kernel
theorem d4_6 : decode method_4_code 6 = .ok (.iload_n 2, 1) := by decide +kernel
theorem d4_7 : decode method_4_code 7 = .ok (.iaload, 1) := by decide +kernel
theorem d4_8 : decode method_4_code 8 = .ok (.if_icmp .ne 14, 3) := by decide +kernel
theorem d4_11 : decode method_4_code 11 = .ok (.aload_n 1, 1) := by decide +kernel
theorem d4_12 : decode method_4_code 12 = .ok (.iconst 0, 1) := by decide +kernel
theorem d4_13 : decode method_4_code 13 = .ok (.iaload, 1) := by decide +kernel
theorem d4_14 : decode method_4_code 14 = .ok (.aload_n 1, 1) := by decide +kernel
theorem d4_15 : decode method_4_code 15 = .ok (.iload_n 3, 1) := by decide +kernel
theorem d4_16 : decode method_4_code 16 = .ok (.iaload, 1) := by decide +kernel
theorem d4_17 : decode method_4_code 17 = .ok (.if_icmp .ge 5, 3) := by decide +kernel
theorem d4_20 : decode method_4_code 20 = .ok (.iconst 0, 1) := by decide +kernel
theorem d4_21 : decode method_4_code 21 = .ok (.istore_n 3, 1) := by decide +kernel
set_option maxRecDepth 65536 in
set_option maxHeartbeats 40000000 in
theorem own_eb0 {p : Program} {l : Launch} {e : Env} {R : Room} {s : State} {m : MethodId} {args : Array Value} {below : List Frame} {meth : Method} {c : Code} {locs : List Loc} {cells slots : Nat} {Z : State} {h : Heap} {T : State} (g ord : Fin 4 → Int32) {gA oA : Addr} {kg ko : ClassId} (X : Stand p l e R s m args below meth c T locs cells slots) (hx : p.tables.exec = Jvm.exec) (hZ : Z.Warmed39 s.vm) (hby : c.code = method_4_code) (eT : T.heap = h) (Vg : Arv Z h gA kg .int (4 : Int32) [.int (g 0), .int (g 1), .int (g 2), .int (g 3)] (.int (0 : Int32))) (Vo : Arv Z h oA ko .int (4 : Int32) [.int (ord 0), .int (ord 1), .int (ord 2), .int (ord 3)] (.int (0 : Int32))) (i b : Fin 4) : ∀ target, Steps p.tables e below (T.setTop (mkF m 22 #[.val (.ref gA), .val (.ref oA), .val (.int (own_ix i)), .val (.int (own_ix (own_bst g ord i 0 b)))] [])) target → Steps p.tables e below (T.setTop (mkF m 2 #[.val (.ref gA), .val (.ref oA), .val (.int (own_ix i)), .val (.int (own_ix b))] [])) target := by
  intro target kt
  obtain ⟨cl1008, Ar1008, q1008, S1008, M1008, Hs1008, G1008⟩ := id Vg
  have hin1008 : ¬ ((0 : Int32) < 0 ∨ cl1008.slots.size ≤ ((0 : Int32)).toNatClampNeg) := inb_of S1008 ⟨by decide, by decide⟩
  have hat1008 : cl1008.slots[((0 : Int32)).toNatClampNeg]? = some (.int (g 0)) := Has.at Hs1008 hin1008 rfl
  obtain ⟨cl1009, Ar1009, q1009, S1009, M1009, Hs1009, G1009⟩ := id Vg
  have hin1009 : ¬ ((own_ix i) < 0 ∨ cl1009.slots.size ≤ ((own_ix i)).toNatClampNeg) := inb_of S1009 (own_ixb i)
  have hat1009 : cl1009.slots[((own_ix i)).toNatClampNeg]? = some (.int (g i)) := Has.at Hs1009 hin1009 (own_getI g i _)
  by_cases h1 : g 0 = g i
  · obtain ⟨cl1010, Ar1010, q1010, S1010, M1010, Hs1010, G1010⟩ := id Vo
    have hin1010 : ¬ ((0 : Int32) < 0 ∨ cl1010.slots.size ≤ ((0 : Int32)).toNatClampNeg) := inb_of S1010 ⟨by decide, by decide⟩
    have hat1010 : cl1010.slots[((0 : Int32)).toNatClampNeg]? = some (.int (ord 0)) := Has.at Hs1010 hin1010 rfl
    obtain ⟨cl1011, Ar1011, q1011, S1011, M1011, Hs1011, G1011⟩ := id Vo
    have hin1011 : ¬ ((own_ix b) < 0 ∨ cl1011.slots.size ≤ ((own_ix b)).toNatClampNeg) := inb_of S1011 (own_ixb b)
    have hat1011 : cl1011.slots[((own_ix b)).toNatClampNeg]? = some (.int (ord b)) := Has.at Hs1011 hin1011 (own_getI ord b _)
    by_cases h2 : ord 0 < ord b
    · rw [show own_bst g ord i 0 b = 0 from if_pos ⟨h1, h2⟩] at kt
      show Steps p.tables e below (T.setTop (mkF m 2 #[.val (.ref gA), .val (.ref oA), .val (.int (own_ix i)), .val (.int (own_ix b))] [])) _
      refine XS.aloadN X.here hx rfl (hb hby d4_2) rfl rfl ?_
      show Steps p.tables e below (T.setTop (mkF m 3 #[.val (.ref gA), .val (.ref oA), .val (.int (own_ix i)), .val (.int (own_ix b))] [(.ref gA)])) _
      refine XS.iconst X.here hx rfl (hb hby d4_3) ?_
      show Steps p.tables e below (T.setTop (mkF m 4 #[.val (.ref gA), .val (.ref oA), .val (.int (own_ix i)), .val (.int (own_ix b))] [(.int (0 : Int32)), (.ref gA)])) _
      refine X.iaload hx (j := (0 : Int32)) (v := (.int (g 0))) (by rw [eT]; exact Ar1008.1) (State.isArrayOf_alike hZ.alike Ar1008.2.1) Ar1008.2.2 hin1008 hat1008 (g := (mkF m 4 #[.val (.ref gA), .val (.ref oA), .val (.int (own_ix i)), .val (.int (own_ix b))] [(.int (0 : Int32)), (.ref gA)])) rfl rfl (hb hby d4_4) _ ?_
      show Steps p.tables e below (T.setTop (mkF m 5 #[.val (.ref gA), .val (.ref oA), .val (.int (own_ix i)), .val (.int (own_ix b))] [(.int (g 0))])) _
      refine XS.aloadN X.here hx rfl (hb hby d4_5) rfl rfl ?_
      show Steps p.tables e below (T.setTop (mkF m 6 #[.val (.ref gA), .val (.ref oA), .val (.int (own_ix i)), .val (.int (own_ix b))] [(.ref gA), (.int (g 0))])) _
      refine XS.iloadN X.here hx rfl (hb hby d4_6) rfl ?_
      show Steps p.tables e below (T.setTop (mkF m 7 #[.val (.ref gA), .val (.ref oA), .val (.int (own_ix i)), .val (.int (own_ix b))] [(.int (own_ix i)), (.ref gA), (.int (g 0))])) _
      refine X.iaload hx (j := (own_ix i)) (v := (.int (g i))) (by rw [eT]; exact Ar1009.1) (State.isArrayOf_alike hZ.alike Ar1009.2.1) Ar1009.2.2 hin1009 hat1009 (g := (mkF m 7 #[.val (.ref gA), .val (.ref oA), .val (.int (own_ix i)), .val (.int (own_ix b))] [(.int (own_ix i)), (.ref gA), (.int (g 0))])) rfl rfl (hb hby d4_7) _ ?_
      show Steps p.tables e below (T.setTop (mkF m 8 #[.val (.ref gA), .val (.ref oA), .val (.int (own_ix i)), .val (.int (own_ix b))] [(.int (g i)), (.int (g 0))])) _
      refine XS.icmpNo X.here hx rfl (hb hby d4_8) rfl (teq (h1 : (g 0) = (g i))).2 ?_
      show Steps p.tables e below (T.setTop (mkF m 11 #[.val (.ref gA), .val (.ref oA), .val (.int (own_ix i)), .val (.int (own_ix b))] [])) _
      refine XS.aloadN X.here hx rfl (hb hby d4_11) rfl rfl ?_
      show Steps p.tables e below (T.setTop (mkF m 12 #[.val (.ref gA), .val (.ref oA), .val (.int (own_ix i)), .val (.int (own_ix b))] [(.ref oA)])) _
      refine XS.iconst X.here hx rfl (hb hby d4_12) ?_
      show Steps p.tables e below (T.setTop (mkF m 13 #[.val (.ref gA), .val (.ref oA), .val (.int (own_ix i)), .val (.int (own_ix b))] [(.int (0 : Int32)), (.ref oA)])) _
      refine X.iaload hx (j := (0 : Int32)) (v := (.int (ord 0))) (by rw [eT]; exact Ar1010.1) (State.isArrayOf_alike hZ.alike Ar1010.2.1) Ar1010.2.2 hin1010 hat1010 (g := (mkF m 13 #[.val (.ref gA), .val (.ref oA), .val (.int (own_ix i)), .val (.int (own_ix b))] [(.int (0 : Int32)), (.ref oA)])) rfl rfl (hb hby d4_13) _ ?_
      show Steps p.tables e below (T.setTop (mkF m 14 #[.val (.ref gA), .val (.ref oA), .val (.int (own_ix i)), .val (.int (own_ix b))] [(.int (ord 0))])) _
      refine XS.aloadN X.here hx rfl (hb hby d4_14) rfl rfl ?_
      show Steps p.tables e below (T.setTop (mkF m 15 #[.val (.ref gA), .val (.ref oA), .val (.int (own_ix i)), .val (.int (own_ix b))] [(.ref oA), (.int (ord 0))])) _
      refine XS.iloadN X.here hx rfl (hb hby d4_15) rfl ?_
      show Steps p.tables e below (T.setTop (mkF m 16 #[.val (.ref gA), .val (.ref oA), .val (.int (own_ix i)), .val (.int (own_ix b))] [(.int (own_ix b)), (.ref oA), (.int (ord 0))])) _
      refine X.iaload hx (j := (own_ix b)) (v := (.int (ord b))) (by rw [eT]; exact Ar1011.1) (State.isArrayOf_alike hZ.alike Ar1011.2.1) Ar1011.2.2 hin1011 hat1011 (g := (mkF m 16 #[.val (.ref gA), .val (.ref oA), .val (.int (own_ix i)), .val (.int (own_ix b))] [(.int (own_ix b)), (.ref oA), (.int (ord 0))])) rfl rfl (hb hby d4_16) _ ?_
      show Steps p.tables e below (T.setTop (mkF m 17 #[.val (.ref gA), .val (.ref oA), .val (.int (own_ix i)), .val (.int (own_ix b))] [(.int (ord b)), (.int (ord 0))])) _
      refine XS.icmpNo X.here hx rfl (hb hby d4_17) rfl (tlt (h2 : (ord 0) < (ord b))).2.1 ?_
      show Steps p.tables e below (T.setTop (mkF m 20 #[.val (.ref gA), .val (.ref oA), .val (.int (own_ix i)), .val (.int (own_ix b))] [])) _
      refine XS.iconst X.here hx rfl (hb hby d4_20) ?_
      show Steps p.tables e below (T.setTop (mkF m 21 #[.val (.ref gA), .val (.ref oA), .val (.int (own_ix i)), .val (.int (own_ix b))] [(.int (0 : Int32))])) _
      refine XS.istoreN X.here hx rfl (hb hby d4_21) rfl (l' := #[.val (.ref gA), .val (.ref oA), .val (.int (own_ix i)), .val (.int (0 : Int32))]) rfl ?_
      exact kt
    · rw [show own_bst g ord i 0 b = b from if_neg (fun q => h2 q.2)] at kt
      show Steps p.tables e below (T.setTop (mkF m 2 #[.val (.ref gA), .val (.ref oA), .val (.int (own_ix i)), .val (.int (own_ix b))] [])) _
      refine XS.aloadN X.here hx rfl (hb hby d4_2) rfl rfl ?_
      show Steps p.tables e below (T.setTop (mkF m 3 #[.val (.ref gA), .val (.ref oA), .val (.int (own_ix i)), .val (.int (own_ix b))] [(.ref gA)])) _
      refine XS.iconst X.here hx rfl (hb hby d4_3) ?_
      show Steps p.tables e below (T.setTop (mkF m 4 #[.val (.ref gA), .val (.ref oA), .val (.int (own_ix i)), .val (.int (own_ix b))] [(.int (0 : Int32)), (.ref gA)])) _
      refine X.iaload hx (j := (0 : Int32)) (v := (.int (g 0))) (by rw [eT]; exact Ar1008.1) (State.isArrayOf_alike hZ.alike Ar1008.2.1) Ar1008.2.2 hin1008 hat1008 (g := (mkF m 4 #[.val (.ref gA), .val (.ref oA), .val (.int (own_ix i)), .val (.int (own_ix b))] [(.int (0 : Int32)), (.ref gA)])) rfl rfl (hb hby d4_4) _ ?_
      show Steps p.tables e below (T.setTop (mkF m 5 #[.val (.ref gA), .val (.ref oA), .val (.int (own_ix i)), .val (.int (own_ix b))] [(.int (g 0))])) _
      refine XS.aloadN X.here hx rfl (hb hby d4_5) rfl rfl ?_
      show Steps p.tables e below (T.setTop (mkF m 6 #[.val (.ref gA), .val (.ref oA), .val (.int (own_ix i)), .val (.int (own_ix b))] [(.ref gA), (.int (g 0))])) _
      refine XS.iloadN X.here hx rfl (hb hby d4_6) rfl ?_
      show Steps p.tables e below (T.setTop (mkF m 7 #[.val (.ref gA), .val (.ref oA), .val (.int (own_ix i)), .val (.int (own_ix b))] [(.int (own_ix i)), (.ref gA), (.int (g 0))])) _
      refine X.iaload hx (j := (own_ix i)) (v := (.int (g i))) (by rw [eT]; exact Ar1009.1) (State.isArrayOf_alike hZ.alike Ar1009.2.1) Ar1009.2.2 hin1009 hat1009 (g := (mkF m 7 #[.val (.ref gA), .val (.ref oA), .val (.int (own_ix i)), .val (.int (own_ix b))] [(.int (own_ix i)), (.ref gA), (.int (g 0))])) rfl rfl (hb hby d4_7) _ ?_
      show Steps p.tables e below (T.setTop (mkF m 8 #[.val (.ref gA), .val (.ref oA), .val (.int (own_ix i)), .val (.int (own_ix b))] [(.int (g i)), (.int (g 0))])) _
      refine XS.icmpNo X.here hx rfl (hb hby d4_8) rfl (teq (h1 : (g 0) = (g i))).2 ?_
      show Steps p.tables e below (T.setTop (mkF m 11 #[.val (.ref gA), .val (.ref oA), .val (.int (own_ix i)), .val (.int (own_ix b))] [])) _
      refine XS.aloadN X.here hx rfl (hb hby d4_11) rfl rfl ?_
      show Steps p.tables e below (T.setTop (mkF m 12 #[.val (.ref gA), .val (.ref oA), .val (.int (own_ix i)), .val (.int (own_ix b))] [(.ref oA)])) _
      refine XS.iconst X.here hx rfl (hb hby d4_12) ?_
      show Steps p.tables e below (T.setTop (mkF m 13 #[.val (.ref gA), .val (.ref oA), .val (.int (own_ix i)), .val (.int (own_ix b))] [(.int (0 : Int32)), (.ref oA)])) _
      refine X.iaload hx (j := (0 : Int32)) (v := (.int (ord 0))) (by rw [eT]; exact Ar1010.1) (State.isArrayOf_alike hZ.alike Ar1010.2.1) Ar1010.2.2 hin1010 hat1010 (g := (mkF m 13 #[.val (.ref gA), .val (.ref oA), .val (.int (own_ix i)), .val (.int (own_ix b))] [(.int (0 : Int32)), (.ref oA)])) rfl rfl (hb hby d4_13) _ ?_
      show Steps p.tables e below (T.setTop (mkF m 14 #[.val (.ref gA), .val (.ref oA), .val (.int (own_ix i)), .val (.int (own_ix b))] [(.int (ord 0))])) _
      refine XS.aloadN X.here hx rfl (hb hby d4_14) rfl rfl ?_
      show Steps p.tables e below (T.setTop (mkF m 15 #[.val (.ref gA), .val (.ref oA), .val (.int (own_ix i)), .val (.int (own_ix b))] [(.ref oA), (.int (ord 0))])) _
      refine XS.iloadN X.here hx rfl (hb hby d4_15) rfl ?_
      show Steps p.tables e below (T.setTop (mkF m 16 #[.val (.ref gA), .val (.ref oA), .val (.int (own_ix i)), .val (.int (own_ix b))] [(.int (own_ix b)), (.ref oA), (.int (ord 0))])) _
      refine X.iaload hx (j := (own_ix b)) (v := (.int (ord b))) (by rw [eT]; exact Ar1011.1) (State.isArrayOf_alike hZ.alike Ar1011.2.1) Ar1011.2.2 hin1011 hat1011 (g := (mkF m 16 #[.val (.ref gA), .val (.ref oA), .val (.int (own_ix i)), .val (.int (own_ix b))] [(.int (own_ix b)), (.ref oA), (.int (ord 0))])) rfl rfl (hb hby d4_16) _ ?_
      show Steps p.tables e below (T.setTop (mkF m 17 #[.val (.ref gA), .val (.ref oA), .val (.int (own_ix i)), .val (.int (own_ix b))] [(.int (ord b)), (.int (ord 0))])) _
      refine XS.icmpYes X.here hx rfl (pc0 := 17) (pc' := 22) rfl (hb hby d4_17) rfl (flt (h2 : ¬ ((ord 0) < (ord b)))).2.1 (by decide) (by decide) ?_
      exact kt
  · rw [show own_bst g ord i 0 b = b from if_neg (fun q => h1 q.1)] at kt
    show Steps p.tables e below (T.setTop (mkF m 2 #[.val (.ref gA), .val (.ref oA), .val (.int (own_ix i)), .val (.int (own_ix b))] [])) _
    refine XS.aloadN X.here hx rfl (hb hby d4_2) rfl rfl ?_
    show Steps p.tables e below (T.setTop (mkF m 3 #[.val (.ref gA), .val (.ref oA), .val (.int (own_ix i)), .val (.int (own_ix b))] [(.ref gA)])) _
    refine XS.iconst X.here hx rfl (hb hby d4_3) ?_
    show Steps p.tables e below (T.setTop (mkF m 4 #[.val (.ref gA), .val (.ref oA), .val (.int (own_ix i)), .val (.int (own_ix b))] [(.int (0 : Int32)), (.ref gA)])) _
    refine X.iaload hx (j := (0 : Int32)) (v := (.int (g 0))) (by rw [eT]; exact Ar1008.1) (State.isArrayOf_alike hZ.alike Ar1008.2.1) Ar1008.2.2 hin1008 hat1008 (g := (mkF m 4 #[.val (.ref gA), .val (.ref oA), .val (.int (own_ix i)), .val (.int (own_ix b))] [(.int (0 : Int32)), (.ref gA)])) rfl rfl (hb hby d4_4) _ ?_
    show Steps p.tables e below (T.setTop (mkF m 5 #[.val (.ref gA), .val (.ref oA), .val (.int (own_ix i)), .val (.int (own_ix b))] [(.int (g 0))])) _
    refine XS.aloadN X.here hx rfl (hb hby d4_5) rfl rfl ?_
    show Steps p.tables e below (T.setTop (mkF m 6 #[.val (.ref gA), .val (.ref oA), .val (.int (own_ix i)), .val (.int (own_ix b))] [(.ref gA), (.int (g 0))])) _
    refine XS.iloadN X.here hx rfl (hb hby d4_6) rfl ?_
    show Steps p.tables e below (T.setTop (mkF m 7 #[.val (.ref gA), .val (.ref oA), .val (.int (own_ix i)), .val (.int (own_ix b))] [(.int (own_ix i)), (.ref gA), (.int (g 0))])) _
    refine X.iaload hx (j := (own_ix i)) (v := (.int (g i))) (by rw [eT]; exact Ar1009.1) (State.isArrayOf_alike hZ.alike Ar1009.2.1) Ar1009.2.2 hin1009 hat1009 (g := (mkF m 7 #[.val (.ref gA), .val (.ref oA), .val (.int (own_ix i)), .val (.int (own_ix b))] [(.int (own_ix i)), (.ref gA), (.int (g 0))])) rfl rfl (hb hby d4_7) _ ?_
    show Steps p.tables e below (T.setTop (mkF m 8 #[.val (.ref gA), .val (.ref oA), .val (.int (own_ix i)), .val (.int (own_ix b))] [(.int (g i)), (.int (g 0))])) _
    refine XS.icmpYes X.here hx rfl (pc0 := 8) (pc' := 22) rfl (hb hby d4_8) rfl (feq (h1 : ¬ ((g 0) = (g i)))).2 (by decide) (by decide) ?_
    exact kt
theorem d4_22 : decode method_4_code 22 = .ok (.aload_n 0, 1) := by decide +kernel
theorem d4_23 : decode method_4_code 23 = .ok (.iconst 1, 1) := by decide +kernel
theorem d4_24 : decode method_4_code 24 = .ok (.iaload, 1) := by decide +kernel
theorem d4_25 : decode method_4_code 25 = .ok (.aload_n 0, 1) := by decide +kernel
theorem d4_26 : decode method_4_code 26 = .ok (.iload_n 2, 1) := by decide +kernel
theorem d4_27 : decode method_4_code 27 = .ok (.iaload, 1) := by decide +kernel
theorem d4_28 : decode method_4_code 28 = .ok (.if_icmp .ne 14, 3) := by decide +kernel
theorem d4_31 : decode method_4_code 31 = .ok (.aload_n 1, 1) := by decide +kernel
theorem d4_32 : decode method_4_code 32 = .ok (.iconst 1, 1) := by decide +kernel
theorem d4_33 : decode method_4_code 33 = .ok (.iaload, 1) := by decide +kernel
theorem d4_34 : decode method_4_code 34 = .ok (.aload_n 1, 1) := by decide +kernel
theorem d4_35 : decode method_4_code 35 = .ok (.iload_n 3, 1) := by decide +kernel
theorem d4_36 : decode method_4_code 36 = .ok (.iaload, 1) := by decide +kernel
theorem d4_37 : decode method_4_code 37 = .ok (.if_icmp .ge 5, 3) := by decide +kernel
theorem d4_40 : decode method_4_code 40 = .ok (.iconst 1, 1) := by decide +kernel
theorem d4_41 : decode method_4_code 41 = .ok (.istore_n 3, 1) := by decide +kernel
set_option maxRecDepth 65536 in
set_option maxHeartbeats 40000000 in
theorem own_eb1 {p : Program} {l : Launch} {e : Env} {R : Room} {s : State} {m : MethodId} {args : Array Value} {below : List Frame} {meth : Method} {c : Code} {locs : List Loc} {cells slots : Nat} {Z : State} {h : Heap} {T : State} (g ord : Fin 4 → Int32) {gA oA : Addr} {kg ko : ClassId} (X : Stand p l e R s m args below meth c T locs cells slots) (hx : p.tables.exec = Jvm.exec) (hZ : Z.Warmed39 s.vm) (hby : c.code = method_4_code) (eT : T.heap = h) (Vg : Arv Z h gA kg .int (4 : Int32) [.int (g 0), .int (g 1), .int (g 2), .int (g 3)] (.int (0 : Int32))) (Vo : Arv Z h oA ko .int (4 : Int32) [.int (ord 0), .int (ord 1), .int (ord 2), .int (ord 3)] (.int (0 : Int32))) (i b : Fin 4) : ∀ target, Steps p.tables e below (T.setTop (mkF m 42 #[.val (.ref gA), .val (.ref oA), .val (.int (own_ix i)), .val (.int (own_ix (own_bst g ord i 1 b)))] [])) target → Steps p.tables e below (T.setTop (mkF m 22 #[.val (.ref gA), .val (.ref oA), .val (.int (own_ix i)), .val (.int (own_ix b))] [])) target := by
  intro target kt
  obtain ⟨cl1012, Ar1012, q1012, S1012, M1012, Hs1012, G1012⟩ := id Vg
  have hin1012 : ¬ ((1 : Int32) < 0 ∨ cl1012.slots.size ≤ ((1 : Int32)).toNatClampNeg) := inb_of S1012 ⟨by decide, by decide⟩
  have hat1012 : cl1012.slots[((1 : Int32)).toNatClampNeg]? = some (.int (g 1)) := Has.at Hs1012 hin1012 rfl
  obtain ⟨cl1013, Ar1013, q1013, S1013, M1013, Hs1013, G1013⟩ := id Vg
  have hin1013 : ¬ ((own_ix i) < 0 ∨ cl1013.slots.size ≤ ((own_ix i)).toNatClampNeg) := inb_of S1013 (own_ixb i)
  have hat1013 : cl1013.slots[((own_ix i)).toNatClampNeg]? = some (.int (g i)) := Has.at Hs1013 hin1013 (own_getI g i _)
  by_cases h1 : g 1 = g i
  · obtain ⟨cl1014, Ar1014, q1014, S1014, M1014, Hs1014, G1014⟩ := id Vo
    have hin1014 : ¬ ((1 : Int32) < 0 ∨ cl1014.slots.size ≤ ((1 : Int32)).toNatClampNeg) := inb_of S1014 ⟨by decide, by decide⟩
    have hat1014 : cl1014.slots[((1 : Int32)).toNatClampNeg]? = some (.int (ord 1)) := Has.at Hs1014 hin1014 rfl
    obtain ⟨cl1015, Ar1015, q1015, S1015, M1015, Hs1015, G1015⟩ := id Vo
    have hin1015 : ¬ ((own_ix b) < 0 ∨ cl1015.slots.size ≤ ((own_ix b)).toNatClampNeg) := inb_of S1015 (own_ixb b)
    have hat1015 : cl1015.slots[((own_ix b)).toNatClampNeg]? = some (.int (ord b)) := Has.at Hs1015 hin1015 (own_getI ord b _)
    by_cases h2 : ord 1 < ord b
    · rw [show own_bst g ord i 1 b = 1 from if_pos ⟨h1, h2⟩] at kt
      show Steps p.tables e below (T.setTop (mkF m 22 #[.val (.ref gA), .val (.ref oA), .val (.int (own_ix i)), .val (.int (own_ix b))] [])) _
      refine XS.aloadN X.here hx rfl (hb hby d4_22) rfl rfl ?_
      show Steps p.tables e below (T.setTop (mkF m 23 #[.val (.ref gA), .val (.ref oA), .val (.int (own_ix i)), .val (.int (own_ix b))] [(.ref gA)])) _
      refine XS.iconst X.here hx rfl (hb hby d4_23) ?_
      show Steps p.tables e below (T.setTop (mkF m 24 #[.val (.ref gA), .val (.ref oA), .val (.int (own_ix i)), .val (.int (own_ix b))] [(.int (1 : Int32)), (.ref gA)])) _
      refine X.iaload hx (j := (1 : Int32)) (v := (.int (g 1))) (by rw [eT]; exact Ar1012.1) (State.isArrayOf_alike hZ.alike Ar1012.2.1) Ar1012.2.2 hin1012 hat1012 (g := (mkF m 24 #[.val (.ref gA), .val (.ref oA), .val (.int (own_ix i)), .val (.int (own_ix b))] [(.int (1 : Int32)), (.ref gA)])) rfl rfl (hb hby d4_24) _ ?_
      show Steps p.tables e below (T.setTop (mkF m 25 #[.val (.ref gA), .val (.ref oA), .val (.int (own_ix i)), .val (.int (own_ix b))] [(.int (g 1))])) _
      refine XS.aloadN X.here hx rfl (hb hby d4_25) rfl rfl ?_
      show Steps p.tables e below (T.setTop (mkF m 26 #[.val (.ref gA), .val (.ref oA), .val (.int (own_ix i)), .val (.int (own_ix b))] [(.ref gA), (.int (g 1))])) _
      refine XS.iloadN X.here hx rfl (hb hby d4_26) rfl ?_
      show Steps p.tables e below (T.setTop (mkF m 27 #[.val (.ref gA), .val (.ref oA), .val (.int (own_ix i)), .val (.int (own_ix b))] [(.int (own_ix i)), (.ref gA), (.int (g 1))])) _
      refine X.iaload hx (j := (own_ix i)) (v := (.int (g i))) (by rw [eT]; exact Ar1013.1) (State.isArrayOf_alike hZ.alike Ar1013.2.1) Ar1013.2.2 hin1013 hat1013 (g := (mkF m 27 #[.val (.ref gA), .val (.ref oA), .val (.int (own_ix i)), .val (.int (own_ix b))] [(.int (own_ix i)), (.ref gA), (.int (g 1))])) rfl rfl (hb hby d4_27) _ ?_
      show Steps p.tables e below (T.setTop (mkF m 28 #[.val (.ref gA), .val (.ref oA), .val (.int (own_ix i)), .val (.int (own_ix b))] [(.int (g i)), (.int (g 1))])) _
      refine XS.icmpNo X.here hx rfl (hb hby d4_28) rfl (teq (h1 : (g 1) = (g i))).2 ?_
      show Steps p.tables e below (T.setTop (mkF m 31 #[.val (.ref gA), .val (.ref oA), .val (.int (own_ix i)), .val (.int (own_ix b))] [])) _
      refine XS.aloadN X.here hx rfl (hb hby d4_31) rfl rfl ?_
      show Steps p.tables e below (T.setTop (mkF m 32 #[.val (.ref gA), .val (.ref oA), .val (.int (own_ix i)), .val (.int (own_ix b))] [(.ref oA)])) _
      refine XS.iconst X.here hx rfl (hb hby d4_32) ?_
      show Steps p.tables e below (T.setTop (mkF m 33 #[.val (.ref gA), .val (.ref oA), .val (.int (own_ix i)), .val (.int (own_ix b))] [(.int (1 : Int32)), (.ref oA)])) _
      refine X.iaload hx (j := (1 : Int32)) (v := (.int (ord 1))) (by rw [eT]; exact Ar1014.1) (State.isArrayOf_alike hZ.alike Ar1014.2.1) Ar1014.2.2 hin1014 hat1014 (g := (mkF m 33 #[.val (.ref gA), .val (.ref oA), .val (.int (own_ix i)), .val (.int (own_ix b))] [(.int (1 : Int32)), (.ref oA)])) rfl rfl (hb hby d4_33) _ ?_
      show Steps p.tables e below (T.setTop (mkF m 34 #[.val (.ref gA), .val (.ref oA), .val (.int (own_ix i)), .val (.int (own_ix b))] [(.int (ord 1))])) _
      refine XS.aloadN X.here hx rfl (hb hby d4_34) rfl rfl ?_
      show Steps p.tables e below (T.setTop (mkF m 35 #[.val (.ref gA), .val (.ref oA), .val (.int (own_ix i)), .val (.int (own_ix b))] [(.ref oA), (.int (ord 1))])) _
      refine XS.iloadN X.here hx rfl (hb hby d4_35) rfl ?_
      show Steps p.tables e below (T.setTop (mkF m 36 #[.val (.ref gA), .val (.ref oA), .val (.int (own_ix i)), .val (.int (own_ix b))] [(.int (own_ix b)), (.ref oA), (.int (ord 1))])) _
      refine X.iaload hx (j := (own_ix b)) (v := (.int (ord b))) (by rw [eT]; exact Ar1015.1) (State.isArrayOf_alike hZ.alike Ar1015.2.1) Ar1015.2.2 hin1015 hat1015 (g := (mkF m 36 #[.val (.ref gA), .val (.ref oA), .val (.int (own_ix i)), .val (.int (own_ix b))] [(.int (own_ix b)), (.ref oA), (.int (ord 1))])) rfl rfl (hb hby d4_36) _ ?_
      show Steps p.tables e below (T.setTop (mkF m 37 #[.val (.ref gA), .val (.ref oA), .val (.int (own_ix i)), .val (.int (own_ix b))] [(.int (ord b)), (.int (ord 1))])) _
      refine XS.icmpNo X.here hx rfl (hb hby d4_37) rfl (tlt (h2 : (ord 1) < (ord b))).2.1 ?_
      show Steps p.tables e below (T.setTop (mkF m 40 #[.val (.ref gA), .val (.ref oA), .val (.int (own_ix i)), .val (.int (own_ix b))] [])) _
      refine XS.iconst X.here hx rfl (hb hby d4_40) ?_
      show Steps p.tables e below (T.setTop (mkF m 41 #[.val (.ref gA), .val (.ref oA), .val (.int (own_ix i)), .val (.int (own_ix b))] [(.int (1 : Int32))])) _
      refine XS.istoreN X.here hx rfl (hb hby d4_41) rfl (l' := #[.val (.ref gA), .val (.ref oA), .val (.int (own_ix i)), .val (.int (1 : Int32))]) rfl ?_
      exact kt
    · rw [show own_bst g ord i 1 b = b from if_neg (fun q => h2 q.2)] at kt
      show Steps p.tables e below (T.setTop (mkF m 22 #[.val (.ref gA), .val (.ref oA), .val (.int (own_ix i)), .val (.int (own_ix b))] [])) _
      refine XS.aloadN X.here hx rfl (hb hby d4_22) rfl rfl ?_
      show Steps p.tables e below (T.setTop (mkF m 23 #[.val (.ref gA), .val (.ref oA), .val (.int (own_ix i)), .val (.int (own_ix b))] [(.ref gA)])) _
      refine XS.iconst X.here hx rfl (hb hby d4_23) ?_
      show Steps p.tables e below (T.setTop (mkF m 24 #[.val (.ref gA), .val (.ref oA), .val (.int (own_ix i)), .val (.int (own_ix b))] [(.int (1 : Int32)), (.ref gA)])) _
      refine X.iaload hx (j := (1 : Int32)) (v := (.int (g 1))) (by rw [eT]; exact Ar1012.1) (State.isArrayOf_alike hZ.alike Ar1012.2.1) Ar1012.2.2 hin1012 hat1012 (g := (mkF m 24 #[.val (.ref gA), .val (.ref oA), .val (.int (own_ix i)), .val (.int (own_ix b))] [(.int (1 : Int32)), (.ref gA)])) rfl rfl (hb hby d4_24) _ ?_
      show Steps p.tables e below (T.setTop (mkF m 25 #[.val (.ref gA), .val (.ref oA), .val (.int (own_ix i)), .val (.int (own_ix b))] [(.int (g 1))])) _
      refine XS.aloadN X.here hx rfl (hb hby d4_25) rfl rfl ?_
      show Steps p.tables e below (T.setTop (mkF m 26 #[.val (.ref gA), .val (.ref oA), .val (.int (own_ix i)), .val (.int (own_ix b))] [(.ref gA), (.int (g 1))])) _
      refine XS.iloadN X.here hx rfl (hb hby d4_26) rfl ?_
      show Steps p.tables e below (T.setTop (mkF m 27 #[.val (.ref gA), .val (.ref oA), .val (.int (own_ix i)), .val (.int (own_ix b))] [(.int (own_ix i)), (.ref gA), (.int (g 1))])) _
      refine X.iaload hx (j := (own_ix i)) (v := (.int (g i))) (by rw [eT]; exact Ar1013.1) (State.isArrayOf_alike hZ.alike Ar1013.2.1) Ar1013.2.2 hin1013 hat1013 (g := (mkF m 27 #[.val (.ref gA), .val (.ref oA), .val (.int (own_ix i)), .val (.int (own_ix b))] [(.int (own_ix i)), (.ref gA), (.int (g 1))])) rfl rfl (hb hby d4_27) _ ?_
      show Steps p.tables e below (T.setTop (mkF m 28 #[.val (.ref gA), .val (.ref oA), .val (.int (own_ix i)), .val (.int (own_ix b))] [(.int (g i)), (.int (g 1))])) _
      refine XS.icmpNo X.here hx rfl (hb hby d4_28) rfl (teq (h1 : (g 1) = (g i))).2 ?_
      show Steps p.tables e below (T.setTop (mkF m 31 #[.val (.ref gA), .val (.ref oA), .val (.int (own_ix i)), .val (.int (own_ix b))] [])) _
      refine XS.aloadN X.here hx rfl (hb hby d4_31) rfl rfl ?_
      show Steps p.tables e below (T.setTop (mkF m 32 #[.val (.ref gA), .val (.ref oA), .val (.int (own_ix i)), .val (.int (own_ix b))] [(.ref oA)])) _
      refine XS.iconst X.here hx rfl (hb hby d4_32) ?_
      show Steps p.tables e below (T.setTop (mkF m 33 #[.val (.ref gA), .val (.ref oA), .val (.int (own_ix i)), .val (.int (own_ix b))] [(.int (1 : Int32)), (.ref oA)])) _
      refine X.iaload hx (j := (1 : Int32)) (v := (.int (ord 1))) (by rw [eT]; exact Ar1014.1) (State.isArrayOf_alike hZ.alike Ar1014.2.1) Ar1014.2.2 hin1014 hat1014 (g := (mkF m 33 #[.val (.ref gA), .val (.ref oA), .val (.int (own_ix i)), .val (.int (own_ix b))] [(.int (1 : Int32)), (.ref oA)])) rfl rfl (hb hby d4_33) _ ?_
      show Steps p.tables e below (T.setTop (mkF m 34 #[.val (.ref gA), .val (.ref oA), .val (.int (own_ix i)), .val (.int (own_ix b))] [(.int (ord 1))])) _
      refine XS.aloadN X.here hx rfl (hb hby d4_34) rfl rfl ?_
      show Steps p.tables e below (T.setTop (mkF m 35 #[.val (.ref gA), .val (.ref oA), .val (.int (own_ix i)), .val (.int (own_ix b))] [(.ref oA), (.int (ord 1))])) _
      refine XS.iloadN X.here hx rfl (hb hby d4_35) rfl ?_
      show Steps p.tables e below (T.setTop (mkF m 36 #[.val (.ref gA), .val (.ref oA), .val (.int (own_ix i)), .val (.int (own_ix b))] [(.int (own_ix b)), (.ref oA), (.int (ord 1))])) _
      refine X.iaload hx (j := (own_ix b)) (v := (.int (ord b))) (by rw [eT]; exact Ar1015.1) (State.isArrayOf_alike hZ.alike Ar1015.2.1) Ar1015.2.2 hin1015 hat1015 (g := (mkF m 36 #[.val (.ref gA), .val (.ref oA), .val (.int (own_ix i)), .val (.int (own_ix b))] [(.int (own_ix b)), (.ref oA), (.int (ord 1))])) rfl rfl (hb hby d4_36) _ ?_
      show Steps p.tables e below (T.setTop (mkF m 37 #[.val (.ref gA), .val (.ref oA), .val (.int (own_ix i)), .val (.int (own_ix b))] [(.int (ord b)), (.int (ord 1))])) _
      refine XS.icmpYes X.here hx rfl (pc0 := 37) (pc' := 42) rfl (hb hby d4_37) rfl (flt (h2 : ¬ ((ord 1) < (ord b)))).2.1 (by decide) (by decide) ?_
      exact kt
  · rw [show own_bst g ord i 1 b = b from if_neg (fun q => h1 q.1)] at kt
    show Steps p.tables e below (T.setTop (mkF m 22 #[.val (.ref gA), .val (.ref oA), .val (.int (own_ix i)), .val (.int (own_ix b))] [])) _
    refine XS.aloadN X.here hx rfl (hb hby d4_22) rfl rfl ?_
    show Steps p.tables e below (T.setTop (mkF m 23 #[.val (.ref gA), .val (.ref oA), .val (.int (own_ix i)), .val (.int (own_ix b))] [(.ref gA)])) _
    refine XS.iconst X.here hx rfl (hb hby d4_23) ?_
    show Steps p.tables e below (T.setTop (mkF m 24 #[.val (.ref gA), .val (.ref oA), .val (.int (own_ix i)), .val (.int (own_ix b))] [(.int (1 : Int32)), (.ref gA)])) _
    refine X.iaload hx (j := (1 : Int32)) (v := (.int (g 1))) (by rw [eT]; exact Ar1012.1) (State.isArrayOf_alike hZ.alike Ar1012.2.1) Ar1012.2.2 hin1012 hat1012 (g := (mkF m 24 #[.val (.ref gA), .val (.ref oA), .val (.int (own_ix i)), .val (.int (own_ix b))] [(.int (1 : Int32)), (.ref gA)])) rfl rfl (hb hby d4_24) _ ?_
    show Steps p.tables e below (T.setTop (mkF m 25 #[.val (.ref gA), .val (.ref oA), .val (.int (own_ix i)), .val (.int (own_ix b))] [(.int (g 1))])) _
    refine XS.aloadN X.here hx rfl (hb hby d4_25) rfl rfl ?_
    show Steps p.tables e below (T.setTop (mkF m 26 #[.val (.ref gA), .val (.ref oA), .val (.int (own_ix i)), .val (.int (own_ix b))] [(.ref gA), (.int (g 1))])) _
    refine XS.iloadN X.here hx rfl (hb hby d4_26) rfl ?_
    show Steps p.tables e below (T.setTop (mkF m 27 #[.val (.ref gA), .val (.ref oA), .val (.int (own_ix i)), .val (.int (own_ix b))] [(.int (own_ix i)), (.ref gA), (.int (g 1))])) _
    refine X.iaload hx (j := (own_ix i)) (v := (.int (g i))) (by rw [eT]; exact Ar1013.1) (State.isArrayOf_alike hZ.alike Ar1013.2.1) Ar1013.2.2 hin1013 hat1013 (g := (mkF m 27 #[.val (.ref gA), .val (.ref oA), .val (.int (own_ix i)), .val (.int (own_ix b))] [(.int (own_ix i)), (.ref gA), (.int (g 1))])) rfl rfl (hb hby d4_27) _ ?_
    show Steps p.tables e below (T.setTop (mkF m 28 #[.val (.ref gA), .val (.ref oA), .val (.int (own_ix i)), .val (.int (own_ix b))] [(.int (g i)), (.int (g 1))])) _
    refine XS.icmpYes X.here hx rfl (pc0 := 28) (pc' := 42) rfl (hb hby d4_28) rfl (feq (h1 : ¬ ((g 1) = (g i)))).2 (by decide) (by decide) ?_
    exact kt
theorem d4_42 : decode method_4_code 42 = .ok (.aload_n 0, 1) := by decide +kernel
theorem d4_43 : decode method_4_code 43 = .ok (.iconst 2, 1) := by decide +kernel
theorem d4_44 : decode method_4_code 44 = .ok (.iaload, 1) := by decide +kernel
theorem d4_45 : decode method_4_code 45 = .ok (.aload_n 0, 1) := by decide +kernel
theorem d4_46 : decode method_4_code 46 = .ok (.iload_n 2, 1) := by decide +kernel
theorem d4_47 : decode method_4_code 47 = .ok (.iaload, 1) := by decide +kernel
theorem d4_48 : decode method_4_code 48 = .ok (.if_icmp .ne 14, 3) := by decide +kernel
theorem d4_51 : decode method_4_code 51 = .ok (.aload_n 1, 1) := by decide +kernel
theorem d4_52 : decode method_4_code 52 = .ok (.iconst 2, 1) := by decide +kernel
theorem d4_53 : decode method_4_code 53 = .ok (.iaload, 1) := by decide +kernel
theorem d4_54 : decode method_4_code 54 = .ok (.aload_n 1, 1) := by decide +kernel
theorem d4_55 : decode method_4_code 55 = .ok (.iload_n 3, 1) := by decide +kernel
theorem d4_56 : decode method_4_code 56 = .ok (.iaload, 1) := by decide +kernel
theorem d4_57 : decode method_4_code 57 = .ok (.if_icmp .ge 5, 3) := by decide +kernel
theorem d4_60 : decode method_4_code 60 = .ok (.iconst 2, 1) := by decide +kernel
theorem d4_61 : decode method_4_code 61 = .ok (.istore_n 3, 1) := by decide +kernel
set_option maxRecDepth 65536 in
set_option maxHeartbeats 40000000 in
theorem own_eb2 {p : Program} {l : Launch} {e : Env} {R : Room} {s : State} {m : MethodId} {args : Array Value} {below : List Frame} {meth : Method} {c : Code} {locs : List Loc} {cells slots : Nat} {Z : State} {h : Heap} {T : State} (g ord : Fin 4 → Int32) {gA oA : Addr} {kg ko : ClassId} (X : Stand p l e R s m args below meth c T locs cells slots) (hx : p.tables.exec = Jvm.exec) (hZ : Z.Warmed39 s.vm) (hby : c.code = method_4_code) (eT : T.heap = h) (Vg : Arv Z h gA kg .int (4 : Int32) [.int (g 0), .int (g 1), .int (g 2), .int (g 3)] (.int (0 : Int32))) (Vo : Arv Z h oA ko .int (4 : Int32) [.int (ord 0), .int (ord 1), .int (ord 2), .int (ord 3)] (.int (0 : Int32))) (i b : Fin 4) : ∀ target, Steps p.tables e below (T.setTop (mkF m 62 #[.val (.ref gA), .val (.ref oA), .val (.int (own_ix i)), .val (.int (own_ix (own_bst g ord i 2 b)))] [])) target → Steps p.tables e below (T.setTop (mkF m 42 #[.val (.ref gA), .val (.ref oA), .val (.int (own_ix i)), .val (.int (own_ix b))] [])) target := by
  intro target kt
  obtain ⟨cl1016, Ar1016, q1016, S1016, M1016, Hs1016, G1016⟩ := id Vg
  have hin1016 : ¬ ((2 : Int32) < 0 ∨ cl1016.slots.size ≤ ((2 : Int32)).toNatClampNeg) := inb_of S1016 ⟨by decide, by decide⟩
  have hat1016 : cl1016.slots[((2 : Int32)).toNatClampNeg]? = some (.int (g 2)) := Has.at Hs1016 hin1016 rfl
  obtain ⟨cl1017, Ar1017, q1017, S1017, M1017, Hs1017, G1017⟩ := id Vg
  have hin1017 : ¬ ((own_ix i) < 0 ∨ cl1017.slots.size ≤ ((own_ix i)).toNatClampNeg) := inb_of S1017 (own_ixb i)
  have hat1017 : cl1017.slots[((own_ix i)).toNatClampNeg]? = some (.int (g i)) := Has.at Hs1017 hin1017 (own_getI g i _)
  by_cases h1 : g 2 = g i
  · obtain ⟨cl1018, Ar1018, q1018, S1018, M1018, Hs1018, G1018⟩ := id Vo
    have hin1018 : ¬ ((2 : Int32) < 0 ∨ cl1018.slots.size ≤ ((2 : Int32)).toNatClampNeg) := inb_of S1018 ⟨by decide, by decide⟩
    have hat1018 : cl1018.slots[((2 : Int32)).toNatClampNeg]? = some (.int (ord 2)) := Has.at Hs1018 hin1018 rfl
    obtain ⟨cl1019, Ar1019, q1019, S1019, M1019, Hs1019, G1019⟩ := id Vo
    have hin1019 : ¬ ((own_ix b) < 0 ∨ cl1019.slots.size ≤ ((own_ix b)).toNatClampNeg) := inb_of S1019 (own_ixb b)
    have hat1019 : cl1019.slots[((own_ix b)).toNatClampNeg]? = some (.int (ord b)) := Has.at Hs1019 hin1019 (own_getI ord b _)
    by_cases h2 : ord 2 < ord b
    · rw [show own_bst g ord i 2 b = 2 from if_pos ⟨h1, h2⟩] at kt
      show Steps p.tables e below (T.setTop (mkF m 42 #[.val (.ref gA), .val (.ref oA), .val (.int (own_ix i)), .val (.int (own_ix b))] [])) _
      refine XS.aloadN X.here hx rfl (hb hby d4_42) rfl rfl ?_
      show Steps p.tables e below (T.setTop (mkF m 43 #[.val (.ref gA), .val (.ref oA), .val (.int (own_ix i)), .val (.int (own_ix b))] [(.ref gA)])) _
      refine XS.iconst X.here hx rfl (hb hby d4_43) ?_
      show Steps p.tables e below (T.setTop (mkF m 44 #[.val (.ref gA), .val (.ref oA), .val (.int (own_ix i)), .val (.int (own_ix b))] [(.int (2 : Int32)), (.ref gA)])) _
      refine X.iaload hx (j := (2 : Int32)) (v := (.int (g 2))) (by rw [eT]; exact Ar1016.1) (State.isArrayOf_alike hZ.alike Ar1016.2.1) Ar1016.2.2 hin1016 hat1016 (g := (mkF m 44 #[.val (.ref gA), .val (.ref oA), .val (.int (own_ix i)), .val (.int (own_ix b))] [(.int (2 : Int32)), (.ref gA)])) rfl rfl (hb hby d4_44) _ ?_
      show Steps p.tables e below (T.setTop (mkF m 45 #[.val (.ref gA), .val (.ref oA), .val (.int (own_ix i)), .val (.int (own_ix b))] [(.int (g 2))])) _
      refine XS.aloadN X.here hx rfl (hb hby d4_45) rfl rfl ?_
      show Steps p.tables e below (T.setTop (mkF m 46 #[.val (.ref gA), .val (.ref oA), .val (.int (own_ix i)), .val (.int (own_ix b))] [(.ref gA), (.int (g 2))])) _
      refine XS.iloadN X.here hx rfl (hb hby d4_46) rfl ?_
      show Steps p.tables e below (T.setTop (mkF m 47 #[.val (.ref gA), .val (.ref oA), .val (.int (own_ix i)), .val (.int (own_ix b))] [(.int (own_ix i)), (.ref gA), (.int (g 2))])) _
      refine X.iaload hx (j := (own_ix i)) (v := (.int (g i))) (by rw [eT]; exact Ar1017.1) (State.isArrayOf_alike hZ.alike Ar1017.2.1) Ar1017.2.2 hin1017 hat1017 (g := (mkF m 47 #[.val (.ref gA), .val (.ref oA), .val (.int (own_ix i)), .val (.int (own_ix b))] [(.int (own_ix i)), (.ref gA), (.int (g 2))])) rfl rfl (hb hby d4_47) _ ?_
      show Steps p.tables e below (T.setTop (mkF m 48 #[.val (.ref gA), .val (.ref oA), .val (.int (own_ix i)), .val (.int (own_ix b))] [(.int (g i)), (.int (g 2))])) _
      refine XS.icmpNo X.here hx rfl (hb hby d4_48) rfl (teq (h1 : (g 2) = (g i))).2 ?_
      show Steps p.tables e below (T.setTop (mkF m 51 #[.val (.ref gA), .val (.ref oA), .val (.int (own_ix i)), .val (.int (own_ix b))] [])) _
      refine XS.aloadN X.here hx rfl (hb hby d4_51) rfl rfl ?_
      show Steps p.tables e below (T.setTop (mkF m 52 #[.val (.ref gA), .val (.ref oA), .val (.int (own_ix i)), .val (.int (own_ix b))] [(.ref oA)])) _
      refine XS.iconst X.here hx rfl (hb hby d4_52) ?_
      show Steps p.tables e below (T.setTop (mkF m 53 #[.val (.ref gA), .val (.ref oA), .val (.int (own_ix i)), .val (.int (own_ix b))] [(.int (2 : Int32)), (.ref oA)])) _
      refine X.iaload hx (j := (2 : Int32)) (v := (.int (ord 2))) (by rw [eT]; exact Ar1018.1) (State.isArrayOf_alike hZ.alike Ar1018.2.1) Ar1018.2.2 hin1018 hat1018 (g := (mkF m 53 #[.val (.ref gA), .val (.ref oA), .val (.int (own_ix i)), .val (.int (own_ix b))] [(.int (2 : Int32)), (.ref oA)])) rfl rfl (hb hby d4_53) _ ?_
      show Steps p.tables e below (T.setTop (mkF m 54 #[.val (.ref gA), .val (.ref oA), .val (.int (own_ix i)), .val (.int (own_ix b))] [(.int (ord 2))])) _
      refine XS.aloadN X.here hx rfl (hb hby d4_54) rfl rfl ?_
      show Steps p.tables e below (T.setTop (mkF m 55 #[.val (.ref gA), .val (.ref oA), .val (.int (own_ix i)), .val (.int (own_ix b))] [(.ref oA), (.int (ord 2))])) _
      refine XS.iloadN X.here hx rfl (hb hby d4_55) rfl ?_
      show Steps p.tables e below (T.setTop (mkF m 56 #[.val (.ref gA), .val (.ref oA), .val (.int (own_ix i)), .val (.int (own_ix b))] [(.int (own_ix b)), (.ref oA), (.int (ord 2))])) _
      refine X.iaload hx (j := (own_ix b)) (v := (.int (ord b))) (by rw [eT]; exact Ar1019.1) (State.isArrayOf_alike hZ.alike Ar1019.2.1) Ar1019.2.2 hin1019 hat1019 (g := (mkF m 56 #[.val (.ref gA), .val (.ref oA), .val (.int (own_ix i)), .val (.int (own_ix b))] [(.int (own_ix b)), (.ref oA), (.int (ord 2))])) rfl rfl (hb hby d4_56) _ ?_
      show Steps p.tables e below (T.setTop (mkF m 57 #[.val (.ref gA), .val (.ref oA), .val (.int (own_ix i)), .val (.int (own_ix b))] [(.int (ord b)), (.int (ord 2))])) _
      refine XS.icmpNo X.here hx rfl (hb hby d4_57) rfl (tlt (h2 : (ord 2) < (ord b))).2.1 ?_
      show Steps p.tables e below (T.setTop (mkF m 60 #[.val (.ref gA), .val (.ref oA), .val (.int (own_ix i)), .val (.int (own_ix b))] [])) _
      refine XS.iconst X.here hx rfl (hb hby d4_60) ?_
      show Steps p.tables e below (T.setTop (mkF m 61 #[.val (.ref gA), .val (.ref oA), .val (.int (own_ix i)), .val (.int (own_ix b))] [(.int (2 : Int32))])) _
      refine XS.istoreN X.here hx rfl (hb hby d4_61) rfl (l' := #[.val (.ref gA), .val (.ref oA), .val (.int (own_ix i)), .val (.int (2 : Int32))]) rfl ?_
      exact kt
    · rw [show own_bst g ord i 2 b = b from if_neg (fun q => h2 q.2)] at kt
      show Steps p.tables e below (T.setTop (mkF m 42 #[.val (.ref gA), .val (.ref oA), .val (.int (own_ix i)), .val (.int (own_ix b))] [])) _
      refine XS.aloadN X.here hx rfl (hb hby d4_42) rfl rfl ?_
      show Steps p.tables e below (T.setTop (mkF m 43 #[.val (.ref gA), .val (.ref oA), .val (.int (own_ix i)), .val (.int (own_ix b))] [(.ref gA)])) _
      refine XS.iconst X.here hx rfl (hb hby d4_43) ?_
      show Steps p.tables e below (T.setTop (mkF m 44 #[.val (.ref gA), .val (.ref oA), .val (.int (own_ix i)), .val (.int (own_ix b))] [(.int (2 : Int32)), (.ref gA)])) _
      refine X.iaload hx (j := (2 : Int32)) (v := (.int (g 2))) (by rw [eT]; exact Ar1016.1) (State.isArrayOf_alike hZ.alike Ar1016.2.1) Ar1016.2.2 hin1016 hat1016 (g := (mkF m 44 #[.val (.ref gA), .val (.ref oA), .val (.int (own_ix i)), .val (.int (own_ix b))] [(.int (2 : Int32)), (.ref gA)])) rfl rfl (hb hby d4_44) _ ?_
      show Steps p.tables e below (T.setTop (mkF m 45 #[.val (.ref gA), .val (.ref oA), .val (.int (own_ix i)), .val (.int (own_ix b))] [(.int (g 2))])) _
      refine XS.aloadN X.here hx rfl (hb hby d4_45) rfl rfl ?_
      show Steps p.tables e below (T.setTop (mkF m 46 #[.val (.ref gA), .val (.ref oA), .val (.int (own_ix i)), .val (.int (own_ix b))] [(.ref gA), (.int (g 2))])) _
      refine XS.iloadN X.here hx rfl (hb hby d4_46) rfl ?_
      show Steps p.tables e below (T.setTop (mkF m 47 #[.val (.ref gA), .val (.ref oA), .val (.int (own_ix i)), .val (.int (own_ix b))] [(.int (own_ix i)), (.ref gA), (.int (g 2))])) _
      refine X.iaload hx (j := (own_ix i)) (v := (.int (g i))) (by rw [eT]; exact Ar1017.1) (State.isArrayOf_alike hZ.alike Ar1017.2.1) Ar1017.2.2 hin1017 hat1017 (g := (mkF m 47 #[.val (.ref gA), .val (.ref oA), .val (.int (own_ix i)), .val (.int (own_ix b))] [(.int (own_ix i)), (.ref gA), (.int (g 2))])) rfl rfl (hb hby d4_47) _ ?_
      show Steps p.tables e below (T.setTop (mkF m 48 #[.val (.ref gA), .val (.ref oA), .val (.int (own_ix i)), .val (.int (own_ix b))] [(.int (g i)), (.int (g 2))])) _
      refine XS.icmpNo X.here hx rfl (hb hby d4_48) rfl (teq (h1 : (g 2) = (g i))).2 ?_
      show Steps p.tables e below (T.setTop (mkF m 51 #[.val (.ref gA), .val (.ref oA), .val (.int (own_ix i)), .val (.int (own_ix b))] [])) _
      refine XS.aloadN X.here hx rfl (hb hby d4_51) rfl rfl ?_
      show Steps p.tables e below (T.setTop (mkF m 52 #[.val (.ref gA), .val (.ref oA), .val (.int (own_ix i)), .val (.int (own_ix b))] [(.ref oA)])) _
      refine XS.iconst X.here hx rfl (hb hby d4_52) ?_
      show Steps p.tables e below (T.setTop (mkF m 53 #[.val (.ref gA), .val (.ref oA), .val (.int (own_ix i)), .val (.int (own_ix b))] [(.int (2 : Int32)), (.ref oA)])) _
      refine X.iaload hx (j := (2 : Int32)) (v := (.int (ord 2))) (by rw [eT]; exact Ar1018.1) (State.isArrayOf_alike hZ.alike Ar1018.2.1) Ar1018.2.2 hin1018 hat1018 (g := (mkF m 53 #[.val (.ref gA), .val (.ref oA), .val (.int (own_ix i)), .val (.int (own_ix b))] [(.int (2 : Int32)), (.ref oA)])) rfl rfl (hb hby d4_53) _ ?_
      show Steps p.tables e below (T.setTop (mkF m 54 #[.val (.ref gA), .val (.ref oA), .val (.int (own_ix i)), .val (.int (own_ix b))] [(.int (ord 2))])) _
      refine XS.aloadN X.here hx rfl (hb hby d4_54) rfl rfl ?_
      show Steps p.tables e below (T.setTop (mkF m 55 #[.val (.ref gA), .val (.ref oA), .val (.int (own_ix i)), .val (.int (own_ix b))] [(.ref oA), (.int (ord 2))])) _
      refine XS.iloadN X.here hx rfl (hb hby d4_55) rfl ?_
      show Steps p.tables e below (T.setTop (mkF m 56 #[.val (.ref gA), .val (.ref oA), .val (.int (own_ix i)), .val (.int (own_ix b))] [(.int (own_ix b)), (.ref oA), (.int (ord 2))])) _
      refine X.iaload hx (j := (own_ix b)) (v := (.int (ord b))) (by rw [eT]; exact Ar1019.1) (State.isArrayOf_alike hZ.alike Ar1019.2.1) Ar1019.2.2 hin1019 hat1019 (g := (mkF m 56 #[.val (.ref gA), .val (.ref oA), .val (.int (own_ix i)), .val (.int (own_ix b))] [(.int (own_ix b)), (.ref oA), (.int (ord 2))])) rfl rfl (hb hby d4_56) _ ?_
      show Steps p.tables e below (T.setTop (mkF m 57 #[.val (.ref gA), .val (.ref oA), .val (.int (own_ix i)), .val (.int (own_ix b))] [(.int (ord b)), (.int (ord 2))])) _
      refine XS.icmpYes X.here hx rfl (pc0 := 57) (pc' := 62) rfl (hb hby d4_57) rfl (flt (h2 : ¬ ((ord 2) < (ord b)))).2.1 (by decide) (by decide) ?_
      exact kt
  · rw [show own_bst g ord i 2 b = b from if_neg (fun q => h1 q.1)] at kt
    show Steps p.tables e below (T.setTop (mkF m 42 #[.val (.ref gA), .val (.ref oA), .val (.int (own_ix i)), .val (.int (own_ix b))] [])) _
    refine XS.aloadN X.here hx rfl (hb hby d4_42) rfl rfl ?_
    show Steps p.tables e below (T.setTop (mkF m 43 #[.val (.ref gA), .val (.ref oA), .val (.int (own_ix i)), .val (.int (own_ix b))] [(.ref gA)])) _
    refine XS.iconst X.here hx rfl (hb hby d4_43) ?_
    show Steps p.tables e below (T.setTop (mkF m 44 #[.val (.ref gA), .val (.ref oA), .val (.int (own_ix i)), .val (.int (own_ix b))] [(.int (2 : Int32)), (.ref gA)])) _
    refine X.iaload hx (j := (2 : Int32)) (v := (.int (g 2))) (by rw [eT]; exact Ar1016.1) (State.isArrayOf_alike hZ.alike Ar1016.2.1) Ar1016.2.2 hin1016 hat1016 (g := (mkF m 44 #[.val (.ref gA), .val (.ref oA), .val (.int (own_ix i)), .val (.int (own_ix b))] [(.int (2 : Int32)), (.ref gA)])) rfl rfl (hb hby d4_44) _ ?_
    show Steps p.tables e below (T.setTop (mkF m 45 #[.val (.ref gA), .val (.ref oA), .val (.int (own_ix i)), .val (.int (own_ix b))] [(.int (g 2))])) _
    refine XS.aloadN X.here hx rfl (hb hby d4_45) rfl rfl ?_
    show Steps p.tables e below (T.setTop (mkF m 46 #[.val (.ref gA), .val (.ref oA), .val (.int (own_ix i)), .val (.int (own_ix b))] [(.ref gA), (.int (g 2))])) _
    refine XS.iloadN X.here hx rfl (hb hby d4_46) rfl ?_
    show Steps p.tables e below (T.setTop (mkF m 47 #[.val (.ref gA), .val (.ref oA), .val (.int (own_ix i)), .val (.int (own_ix b))] [(.int (own_ix i)), (.ref gA), (.int (g 2))])) _
    refine X.iaload hx (j := (own_ix i)) (v := (.int (g i))) (by rw [eT]; exact Ar1017.1) (State.isArrayOf_alike hZ.alike Ar1017.2.1) Ar1017.2.2 hin1017 hat1017 (g := (mkF m 47 #[.val (.ref gA), .val (.ref oA), .val (.int (own_ix i)), .val (.int (own_ix b))] [(.int (own_ix i)), (.ref gA), (.int (g 2))])) rfl rfl (hb hby d4_47) _ ?_
    show Steps p.tables e below (T.setTop (mkF m 48 #[.val (.ref gA), .val (.ref oA), .val (.int (own_ix i)), .val (.int (own_ix b))] [(.int (g i)), (.int (g 2))])) _
    refine XS.icmpYes X.here hx rfl (pc0 := 48) (pc' := 62) rfl (hb hby d4_48) rfl (feq (h1 : ¬ ((g 2) = (g i)))).2 (by decide) (by decide) ?_
    exact kt
theorem d4_62 : decode method_4_code 62 = .ok (.aload_n 0, 1) := by decide +kernel
theorem d4_63 : decode method_4_code 63 = .ok (.iconst 3, 1) := by decide +kernel
theorem d4_64 : decode method_4_code 64 = .ok (.iaload, 1) := by decide +kernel
theorem d4_65 : decode method_4_code 65 = .ok (.aload_n 0, 1) := by decide +kernel
theorem d4_66 : decode method_4_code 66 = .ok (.iload_n 2, 1) := by decide +kernel
theorem d4_67 : decode method_4_code 67 = .ok (.iaload, 1) := by decide +kernel
theorem d4_68 : decode method_4_code 68 = .ok (.if_icmp .ne 14, 3) := by decide +kernel
theorem d4_71 : decode method_4_code 71 = .ok (.aload_n 1, 1) := by decide +kernel
theorem d4_72 : decode method_4_code 72 = .ok (.iconst 3, 1) := by decide +kernel
theorem d4_73 : decode method_4_code 73 = .ok (.iaload, 1) := by decide +kernel
theorem d4_74 : decode method_4_code 74 = .ok (.aload_n 1, 1) := by decide +kernel
theorem d4_75 : decode method_4_code 75 = .ok (.iload_n 3, 1) := by decide +kernel
theorem d4_76 : decode method_4_code 76 = .ok (.iaload, 1) := by decide +kernel
theorem d4_77 : decode method_4_code 77 = .ok (.if_icmp .ge 5, 3) := by decide +kernel
theorem d4_80 : decode method_4_code 80 = .ok (.iconst 3, 1) := by decide +kernel
theorem d4_81 : decode method_4_code 81 = .ok (.istore_n 3, 1) := by decide +kernel
set_option maxRecDepth 65536 in
set_option maxHeartbeats 40000000 in
theorem own_eb3 {p : Program} {l : Launch} {e : Env} {R : Room} {s : State} {m : MethodId} {args : Array Value} {below : List Frame} {meth : Method} {c : Code} {locs : List Loc} {cells slots : Nat} {Z : State} {h : Heap} {T : State} (g ord : Fin 4 → Int32) {gA oA : Addr} {kg ko : ClassId} (X : Stand p l e R s m args below meth c T locs cells slots) (hx : p.tables.exec = Jvm.exec) (hZ : Z.Warmed39 s.vm) (hby : c.code = method_4_code) (eT : T.heap = h) (Vg : Arv Z h gA kg .int (4 : Int32) [.int (g 0), .int (g 1), .int (g 2), .int (g 3)] (.int (0 : Int32))) (Vo : Arv Z h oA ko .int (4 : Int32) [.int (ord 0), .int (ord 1), .int (ord 2), .int (ord 3)] (.int (0 : Int32))) (i b : Fin 4) : ∀ target, Steps p.tables e below (T.setTop (mkF m 82 #[.val (.ref gA), .val (.ref oA), .val (.int (own_ix i)), .val (.int (own_ix (own_bst g ord i 3 b)))] [])) target → Steps p.tables e below (T.setTop (mkF m 62 #[.val (.ref gA), .val (.ref oA), .val (.int (own_ix i)), .val (.int (own_ix b))] [])) target := by
  intro target kt
  obtain ⟨cl1020, Ar1020, q1020, S1020, M1020, Hs1020, G1020⟩ := id Vg
  have hin1020 : ¬ ((3 : Int32) < 0 ∨ cl1020.slots.size ≤ ((3 : Int32)).toNatClampNeg) := inb_of S1020 ⟨by decide, by decide⟩
  have hat1020 : cl1020.slots[((3 : Int32)).toNatClampNeg]? = some (.int (g 3)) := Has.at Hs1020 hin1020 rfl
  obtain ⟨cl1021, Ar1021, q1021, S1021, M1021, Hs1021, G1021⟩ := id Vg
  have hin1021 : ¬ ((own_ix i) < 0 ∨ cl1021.slots.size ≤ ((own_ix i)).toNatClampNeg) := inb_of S1021 (own_ixb i)
  have hat1021 : cl1021.slots[((own_ix i)).toNatClampNeg]? = some (.int (g i)) := Has.at Hs1021 hin1021 (own_getI g i _)
  by_cases h1 : g 3 = g i
  · obtain ⟨cl1022, Ar1022, q1022, S1022, M1022, Hs1022, G1022⟩ := id Vo
    have hin1022 : ¬ ((3 : Int32) < 0 ∨ cl1022.slots.size ≤ ((3 : Int32)).toNatClampNeg) := inb_of S1022 ⟨by decide, by decide⟩
    have hat1022 : cl1022.slots[((3 : Int32)).toNatClampNeg]? = some (.int (ord 3)) := Has.at Hs1022 hin1022 rfl
    obtain ⟨cl1023, Ar1023, q1023, S1023, M1023, Hs1023, G1023⟩ := id Vo
    have hin1023 : ¬ ((own_ix b) < 0 ∨ cl1023.slots.size ≤ ((own_ix b)).toNatClampNeg) := inb_of S1023 (own_ixb b)
    have hat1023 : cl1023.slots[((own_ix b)).toNatClampNeg]? = some (.int (ord b)) := Has.at Hs1023 hin1023 (own_getI ord b _)
    by_cases h2 : ord 3 < ord b
    · rw [show own_bst g ord i 3 b = 3 from if_pos ⟨h1, h2⟩] at kt
      show Steps p.tables e below (T.setTop (mkF m 62 #[.val (.ref gA), .val (.ref oA), .val (.int (own_ix i)), .val (.int (own_ix b))] [])) _
      refine XS.aloadN X.here hx rfl (hb hby d4_62) rfl rfl ?_
      show Steps p.tables e below (T.setTop (mkF m 63 #[.val (.ref gA), .val (.ref oA), .val (.int (own_ix i)), .val (.int (own_ix b))] [(.ref gA)])) _
      refine XS.iconst X.here hx rfl (hb hby d4_63) ?_
      show Steps p.tables e below (T.setTop (mkF m 64 #[.val (.ref gA), .val (.ref oA), .val (.int (own_ix i)), .val (.int (own_ix b))] [(.int (3 : Int32)), (.ref gA)])) _
      refine X.iaload hx (j := (3 : Int32)) (v := (.int (g 3))) (by rw [eT]; exact Ar1020.1) (State.isArrayOf_alike hZ.alike Ar1020.2.1) Ar1020.2.2 hin1020 hat1020 (g := (mkF m 64 #[.val (.ref gA), .val (.ref oA), .val (.int (own_ix i)), .val (.int (own_ix b))] [(.int (3 : Int32)), (.ref gA)])) rfl rfl (hb hby d4_64) _ ?_
      show Steps p.tables e below (T.setTop (mkF m 65 #[.val (.ref gA), .val (.ref oA), .val (.int (own_ix i)), .val (.int (own_ix b))] [(.int (g 3))])) _
      refine XS.aloadN X.here hx rfl (hb hby d4_65) rfl rfl ?_
      show Steps p.tables e below (T.setTop (mkF m 66 #[.val (.ref gA), .val (.ref oA), .val (.int (own_ix i)), .val (.int (own_ix b))] [(.ref gA), (.int (g 3))])) _
      refine XS.iloadN X.here hx rfl (hb hby d4_66) rfl ?_
      show Steps p.tables e below (T.setTop (mkF m 67 #[.val (.ref gA), .val (.ref oA), .val (.int (own_ix i)), .val (.int (own_ix b))] [(.int (own_ix i)), (.ref gA), (.int (g 3))])) _
      refine X.iaload hx (j := (own_ix i)) (v := (.int (g i))) (by rw [eT]; exact Ar1021.1) (State.isArrayOf_alike hZ.alike Ar1021.2.1) Ar1021.2.2 hin1021 hat1021 (g := (mkF m 67 #[.val (.ref gA), .val (.ref oA), .val (.int (own_ix i)), .val (.int (own_ix b))] [(.int (own_ix i)), (.ref gA), (.int (g 3))])) rfl rfl (hb hby d4_67) _ ?_
      show Steps p.tables e below (T.setTop (mkF m 68 #[.val (.ref gA), .val (.ref oA), .val (.int (own_ix i)), .val (.int (own_ix b))] [(.int (g i)), (.int (g 3))])) _
      refine XS.icmpNo X.here hx rfl (hb hby d4_68) rfl (teq (h1 : (g 3) = (g i))).2 ?_
      show Steps p.tables e below (T.setTop (mkF m 71 #[.val (.ref gA), .val (.ref oA), .val (.int (own_ix i)), .val (.int (own_ix b))] [])) _
      refine XS.aloadN X.here hx rfl (hb hby d4_71) rfl rfl ?_
      show Steps p.tables e below (T.setTop (mkF m 72 #[.val (.ref gA), .val (.ref oA), .val (.int (own_ix i)), .val (.int (own_ix b))] [(.ref oA)])) _
      refine XS.iconst X.here hx rfl (hb hby d4_72) ?_
      show Steps p.tables e below (T.setTop (mkF m 73 #[.val (.ref gA), .val (.ref oA), .val (.int (own_ix i)), .val (.int (own_ix b))] [(.int (3 : Int32)), (.ref oA)])) _
      refine X.iaload hx (j := (3 : Int32)) (v := (.int (ord 3))) (by rw [eT]; exact Ar1022.1) (State.isArrayOf_alike hZ.alike Ar1022.2.1) Ar1022.2.2 hin1022 hat1022 (g := (mkF m 73 #[.val (.ref gA), .val (.ref oA), .val (.int (own_ix i)), .val (.int (own_ix b))] [(.int (3 : Int32)), (.ref oA)])) rfl rfl (hb hby d4_73) _ ?_
      show Steps p.tables e below (T.setTop (mkF m 74 #[.val (.ref gA), .val (.ref oA), .val (.int (own_ix i)), .val (.int (own_ix b))] [(.int (ord 3))])) _
      refine XS.aloadN X.here hx rfl (hb hby d4_74) rfl rfl ?_
      show Steps p.tables e below (T.setTop (mkF m 75 #[.val (.ref gA), .val (.ref oA), .val (.int (own_ix i)), .val (.int (own_ix b))] [(.ref oA), (.int (ord 3))])) _
      refine XS.iloadN X.here hx rfl (hb hby d4_75) rfl ?_
      show Steps p.tables e below (T.setTop (mkF m 76 #[.val (.ref gA), .val (.ref oA), .val (.int (own_ix i)), .val (.int (own_ix b))] [(.int (own_ix b)), (.ref oA), (.int (ord 3))])) _
      refine X.iaload hx (j := (own_ix b)) (v := (.int (ord b))) (by rw [eT]; exact Ar1023.1) (State.isArrayOf_alike hZ.alike Ar1023.2.1) Ar1023.2.2 hin1023 hat1023 (g := (mkF m 76 #[.val (.ref gA), .val (.ref oA), .val (.int (own_ix i)), .val (.int (own_ix b))] [(.int (own_ix b)), (.ref oA), (.int (ord 3))])) rfl rfl (hb hby d4_76) _ ?_
      show Steps p.tables e below (T.setTop (mkF m 77 #[.val (.ref gA), .val (.ref oA), .val (.int (own_ix i)), .val (.int (own_ix b))] [(.int (ord b)), (.int (ord 3))])) _
      refine XS.icmpNo X.here hx rfl (hb hby d4_77) rfl (tlt (h2 : (ord 3) < (ord b))).2.1 ?_
      show Steps p.tables e below (T.setTop (mkF m 80 #[.val (.ref gA), .val (.ref oA), .val (.int (own_ix i)), .val (.int (own_ix b))] [])) _
      refine XS.iconst X.here hx rfl (hb hby d4_80) ?_
      show Steps p.tables e below (T.setTop (mkF m 81 #[.val (.ref gA), .val (.ref oA), .val (.int (own_ix i)), .val (.int (own_ix b))] [(.int (3 : Int32))])) _
      refine XS.istoreN X.here hx rfl (hb hby d4_81) rfl (l' := #[.val (.ref gA), .val (.ref oA), .val (.int (own_ix i)), .val (.int (3 : Int32))]) rfl ?_
      exact kt
    · rw [show own_bst g ord i 3 b = b from if_neg (fun q => h2 q.2)] at kt
      show Steps p.tables e below (T.setTop (mkF m 62 #[.val (.ref gA), .val (.ref oA), .val (.int (own_ix i)), .val (.int (own_ix b))] [])) _
      refine XS.aloadN X.here hx rfl (hb hby d4_62) rfl rfl ?_
      show Steps p.tables e below (T.setTop (mkF m 63 #[.val (.ref gA), .val (.ref oA), .val (.int (own_ix i)), .val (.int (own_ix b))] [(.ref gA)])) _
      refine XS.iconst X.here hx rfl (hb hby d4_63) ?_
      show Steps p.tables e below (T.setTop (mkF m 64 #[.val (.ref gA), .val (.ref oA), .val (.int (own_ix i)), .val (.int (own_ix b))] [(.int (3 : Int32)), (.ref gA)])) _
      refine X.iaload hx (j := (3 : Int32)) (v := (.int (g 3))) (by rw [eT]; exact Ar1020.1) (State.isArrayOf_alike hZ.alike Ar1020.2.1) Ar1020.2.2 hin1020 hat1020 (g := (mkF m 64 #[.val (.ref gA), .val (.ref oA), .val (.int (own_ix i)), .val (.int (own_ix b))] [(.int (3 : Int32)), (.ref gA)])) rfl rfl (hb hby d4_64) _ ?_
      show Steps p.tables e below (T.setTop (mkF m 65 #[.val (.ref gA), .val (.ref oA), .val (.int (own_ix i)), .val (.int (own_ix b))] [(.int (g 3))])) _
      refine XS.aloadN X.here hx rfl (hb hby d4_65) rfl rfl ?_
      show Steps p.tables e below (T.setTop (mkF m 66 #[.val (.ref gA), .val (.ref oA), .val (.int (own_ix i)), .val (.int (own_ix b))] [(.ref gA), (.int (g 3))])) _
      refine XS.iloadN X.here hx rfl (hb hby d4_66) rfl ?_
      show Steps p.tables e below (T.setTop (mkF m 67 #[.val (.ref gA), .val (.ref oA), .val (.int (own_ix i)), .val (.int (own_ix b))] [(.int (own_ix i)), (.ref gA), (.int (g 3))])) _
      refine X.iaload hx (j := (own_ix i)) (v := (.int (g i))) (by rw [eT]; exact Ar1021.1) (State.isArrayOf_alike hZ.alike Ar1021.2.1) Ar1021.2.2 hin1021 hat1021 (g := (mkF m 67 #[.val (.ref gA), .val (.ref oA), .val (.int (own_ix i)), .val (.int (own_ix b))] [(.int (own_ix i)), (.ref gA), (.int (g 3))])) rfl rfl (hb hby d4_67) _ ?_
      show Steps p.tables e below (T.setTop (mkF m 68 #[.val (.ref gA), .val (.ref oA), .val (.int (own_ix i)), .val (.int (own_ix b))] [(.int (g i)), (.int (g 3))])) _
      refine XS.icmpNo X.here hx rfl (hb hby d4_68) rfl (teq (h1 : (g 3) = (g i))).2 ?_
      show Steps p.tables e below (T.setTop (mkF m 71 #[.val (.ref gA), .val (.ref oA), .val (.int (own_ix i)), .val (.int (own_ix b))] [])) _
      refine XS.aloadN X.here hx rfl (hb hby d4_71) rfl rfl ?_
      show Steps p.tables e below (T.setTop (mkF m 72 #[.val (.ref gA), .val (.ref oA), .val (.int (own_ix i)), .val (.int (own_ix b))] [(.ref oA)])) _
      refine XS.iconst X.here hx rfl (hb hby d4_72) ?_
      show Steps p.tables e below (T.setTop (mkF m 73 #[.val (.ref gA), .val (.ref oA), .val (.int (own_ix i)), .val (.int (own_ix b))] [(.int (3 : Int32)), (.ref oA)])) _
      refine X.iaload hx (j := (3 : Int32)) (v := (.int (ord 3))) (by rw [eT]; exact Ar1022.1) (State.isArrayOf_alike hZ.alike Ar1022.2.1) Ar1022.2.2 hin1022 hat1022 (g := (mkF m 73 #[.val (.ref gA), .val (.ref oA), .val (.int (own_ix i)), .val (.int (own_ix b))] [(.int (3 : Int32)), (.ref oA)])) rfl rfl (hb hby d4_73) _ ?_
      show Steps p.tables e below (T.setTop (mkF m 74 #[.val (.ref gA), .val (.ref oA), .val (.int (own_ix i)), .val (.int (own_ix b))] [(.int (ord 3))])) _
      refine XS.aloadN X.here hx rfl (hb hby d4_74) rfl rfl ?_
      show Steps p.tables e below (T.setTop (mkF m 75 #[.val (.ref gA), .val (.ref oA), .val (.int (own_ix i)), .val (.int (own_ix b))] [(.ref oA), (.int (ord 3))])) _
      refine XS.iloadN X.here hx rfl (hb hby d4_75) rfl ?_
      show Steps p.tables e below (T.setTop (mkF m 76 #[.val (.ref gA), .val (.ref oA), .val (.int (own_ix i)), .val (.int (own_ix b))] [(.int (own_ix b)), (.ref oA), (.int (ord 3))])) _
      refine X.iaload hx (j := (own_ix b)) (v := (.int (ord b))) (by rw [eT]; exact Ar1023.1) (State.isArrayOf_alike hZ.alike Ar1023.2.1) Ar1023.2.2 hin1023 hat1023 (g := (mkF m 76 #[.val (.ref gA), .val (.ref oA), .val (.int (own_ix i)), .val (.int (own_ix b))] [(.int (own_ix b)), (.ref oA), (.int (ord 3))])) rfl rfl (hb hby d4_76) _ ?_
      show Steps p.tables e below (T.setTop (mkF m 77 #[.val (.ref gA), .val (.ref oA), .val (.int (own_ix i)), .val (.int (own_ix b))] [(.int (ord b)), (.int (ord 3))])) _
      refine XS.icmpYes X.here hx rfl (pc0 := 77) (pc' := 82) rfl (hb hby d4_77) rfl (flt (h2 : ¬ ((ord 3) < (ord b)))).2.1 (by decide) (by decide) ?_
      exact kt
  · rw [show own_bst g ord i 3 b = b from if_neg (fun q => h1 q.1)] at kt
    show Steps p.tables e below (T.setTop (mkF m 62 #[.val (.ref gA), .val (.ref oA), .val (.int (own_ix i)), .val (.int (own_ix b))] [])) _
    refine XS.aloadN X.here hx rfl (hb hby d4_62) rfl rfl ?_
    show Steps p.tables e below (T.setTop (mkF m 63 #[.val (.ref gA), .val (.ref oA), .val (.int (own_ix i)), .val (.int (own_ix b))] [(.ref gA)])) _
    refine XS.iconst X.here hx rfl (hb hby d4_63) ?_
    show Steps p.tables e below (T.setTop (mkF m 64 #[.val (.ref gA), .val (.ref oA), .val (.int (own_ix i)), .val (.int (own_ix b))] [(.int (3 : Int32)), (.ref gA)])) _
    refine X.iaload hx (j := (3 : Int32)) (v := (.int (g 3))) (by rw [eT]; exact Ar1020.1) (State.isArrayOf_alike hZ.alike Ar1020.2.1) Ar1020.2.2 hin1020 hat1020 (g := (mkF m 64 #[.val (.ref gA), .val (.ref oA), .val (.int (own_ix i)), .val (.int (own_ix b))] [(.int (3 : Int32)), (.ref gA)])) rfl rfl (hb hby d4_64) _ ?_
    show Steps p.tables e below (T.setTop (mkF m 65 #[.val (.ref gA), .val (.ref oA), .val (.int (own_ix i)), .val (.int (own_ix b))] [(.int (g 3))])) _
    refine XS.aloadN X.here hx rfl (hb hby d4_65) rfl rfl ?_
    show Steps p.tables e below (T.setTop (mkF m 66 #[.val (.ref gA), .val (.ref oA), .val (.int (own_ix i)), .val (.int (own_ix b))] [(.ref gA), (.int (g 3))])) _
    refine XS.iloadN X.here hx rfl (hb hby d4_66) rfl ?_
    show Steps p.tables e below (T.setTop (mkF m 67 #[.val (.ref gA), .val (.ref oA), .val (.int (own_ix i)), .val (.int (own_ix b))] [(.int (own_ix i)), (.ref gA), (.int (g 3))])) _
    refine X.iaload hx (j := (own_ix i)) (v := (.int (g i))) (by rw [eT]; exact Ar1021.1) (State.isArrayOf_alike hZ.alike Ar1021.2.1) Ar1021.2.2 hin1021 hat1021 (g := (mkF m 67 #[.val (.ref gA), .val (.ref oA), .val (.int (own_ix i)), .val (.int (own_ix b))] [(.int (own_ix i)), (.ref gA), (.int (g 3))])) rfl rfl (hb hby d4_67) _ ?_
    show Steps p.tables e below (T.setTop (mkF m 68 #[.val (.ref gA), .val (.ref oA), .val (.int (own_ix i)), .val (.int (own_ix b))] [(.int (g i)), (.int (g 3))])) _
    refine XS.icmpYes X.here hx rfl (pc0 := 68) (pc' := 82) rfl (hb hby d4_68) rfl (feq (h1 : ¬ ((g 3) = (g i)))).2 (by decide) (by decide) ?_
    exact kt
theorem ef_exp (m : MethodId) (x0 x1 : Addr) (x2 : Int32) : entryFrame m #[.ref x0, .ref x1, .int x2] 4 = mkF m 0 #[.val (.ref x0), .val (.ref x1), .val (.int x2), .unset] [] := by first | (simp [entryFrame, mkF, argsToLocals, Value.category]; done) | rfl
theorem d4_0 : decode method_4_code 0 = .ok (.iload_n 2, 1) := by decide +kernel
theorem d4_1 : decode method_4_code 1 = .ok (.istore_n 3, 1) := by decide +kernel
theorem d4_82 : decode method_4_code 82 = .ok (.iload_n 3, 1) := by decide +kernel
theorem d4_83 : decode method_4_code 83 = .ok (.ireturn, 1) := by decide +kernel
def own_dummyZ : Nat := 0
theorem pn_2 : plainName "com/example/pentad/pentad/tx/TempIdRootPinLaw" = true := by first | (simp [plainName, overriddenIn]; done) | decide +kernel
def Qown_expected (Z : State) (g ord : Fin 4 → Int32) (gA oA : Addr) (kg ko : ClassId) (i : Fin 4) (h0 : Heap) (n0 : Nat) (v : Option Value) (h : Heap) (L : List Loc) : Prop := v = some (.int (own_ix (own_exp g ord i))) ∧ Fr n0 L ∧ h = h0
set_option maxRecDepth 65536 in
set_option maxHeartbeats 40000000 in
theorem own_expected (l : Launch) (Z : State) (a0 : Array Value) (hw : ∀ d ∈ tables_1, d.before a0 Z = true) (ws : List Jvm.Cond) (g ord : Fin 4 → Int32) (gA oA : Addr) (kg ko : ClassId) (i : Fin 4) (h0 : Heap) (n0 : Nat) (O0 : Old Z n0 h0) (Vg : Arv Z h0 gA kg .int (4 : Int32) [.int (g 0), .int (g 1), .int (g 2), .int (g 3)] (.int (0 : Int32))) (Vo : Arv Z h0 oA ko .int (4 : Int32) [.int (ord 0), .int (ord 1), .int (ord 2), .int (ord 3)] (.int (0 : Int32))) :
    MetFree l (⟨"com/example/pentad/pentad/tx/TempIdRootPinLaw", "expected", "([I[II)I"⟩ : MethodName) (head1 (Jvm.Cond.code (⟨"com/example/pentad/pentad/tx/TempIdRootPinLaw", "expected", "([I[II)I"⟩ : MethodName) method_4_code 4 (some .int) :: ws) ({ frames := 0, cells := 0, slots := 0, locals := 0 } : Room)) (fun a U => a = #[.ref gA, .ref oA, .int (own_ix i)] ∧ Z.Warmed39 U.vm ∧ U.heap = h0) (fun _ _ _ _ _ => True) (fun _ U o U' => ∃ v L, o = .returned v ∧ Qown_expected Z g ord gA oA kg ko i h0 n0 v U'.heap L ∧ FrameEnd U o U' L ({ frames := 0, cells := 0, slots := 0, locals := 0 } : Room).cells ({ frames := 0, cells := 0, slots := 0, locals := 0 } : Room).slots) := by
  refine MetFree.of_bodySF (plainFor_of_name pn_2) hisR ?_
  intro p e s m args below meth c s₁ Bd hml0 hP hK
  obtain ⟨rfl, hZ, hh⟩ := hP
  have hx := Bd.exec
  have hby := Bd.bytes
  have hml : c.maxLocals = 4 := hml0
  have hown : s.vm.findClass "com/example/pentad/pentad/tx/TempIdRootPinLaw" = some m.cls := findClass_of_methodNamed Bd.named
  have hnm := (name_of_methodNamed Bd.named Bd.method).1
  have X0 : Stand p l e ({ frames := 0, cells := 0, slots := 0, locals := 0 } : Room) s m #[.ref gA, .ref oA, .int (own_ix i)] below meth c s₁ [] 0 0 := Stand.of_body Bd
  have e0 : s₁.heap = h0 := by rw [← hh, Bd.state]; rfl
  have N0 := Fr.nil n0
  have pre0 : ∀ tgt, Steps p.tables e below (s₁.setTop (mkF m 0 #[.val (.ref gA), .val (.ref oA), .val (.int (own_ix i)), .unset] [])) tgt → Steps p.tables e below (s₁.setTop (entryFrame m #[.ref gA, .ref oA, .int (own_ix i)] 4)) tgt := fun tgt k => castTop (ef_exp m gA oA (own_ix i)) k
  obtain ⟨fs, hr, hrun, hended, hW, hsame⟩ := X0.leave (v := some (.int (own_ix (own_exp g ord i)))) (fun h => by rw [Bd.returns] at h; cases h)
  refine ⟨_, _, pre0 _ ?_, hrun, hended, _, _, rfl, ?_, ⟨_, rfl⟩, hW, hsame.mono (by decide) (by decide)⟩
  · show Steps p.tables e below (s₁.setTop (mkF m 0 #[.val (.ref gA), .val (.ref oA), .val (.int (own_ix i)), .unset] [])) _
    refine XS.iloadN X0.here hx rfl (hb hby d4_0) rfl ?_
    show Steps p.tables e below (s₁.setTop (mkF m 1 #[.val (.ref gA), .val (.ref oA), .val (.int (own_ix i)), .unset] [(.int (own_ix i))])) _
    refine XS.istoreN X0.here hx rfl (hb hby d4_1) rfl (l' := #[.val (.ref gA), .val (.ref oA), .val (.int (own_ix i)), .val (.int (own_ix i))]) rfl ?_
    show Steps p.tables e below (s₁.setTop (mkF m 2 #[.val (.ref gA), .val (.ref oA), .val (.int (own_ix i)), .val (.int (own_ix i))] [])) _
    refine own_eb0 g ord X0 hx hZ hby e0 Vg Vo i i _ ?_
    refine own_eb1 g ord X0 hx hZ hby e0 Vg Vo i (own_bst g ord i 0 i) _ ?_
    refine own_eb2 g ord X0 hx hZ hby e0 Vg Vo i (own_bst g ord i 1 (own_bst g ord i 0 i)) _ ?_
    refine own_eb3 g ord X0 hx hZ hby e0 Vg Vo i (own_bst g ord i 2 (own_bst g ord i 1 (own_bst g ord i 0 i))) _ ?_
    show Steps p.tables e below (s₁.setTop (mkF m 82 #[.val (.ref gA), .val (.ref oA), .val (.int (own_ix i)), .val (.int (own_ix (own_exp g ord i)))] [])) _
    refine XS.iloadN X0.here hx rfl (hb hby d4_82) rfl ?_
    show Steps p.tables e below (s₁.setTop (mkF m 83 #[.val (.ref gA), .val (.ref oA), .val (.int (own_ix i)), .val (.int (own_ix (own_exp g ord i)))] [(.int (own_ix (own_exp g ord i)))])) _
    exact retI X0 hx Bd.returns (hb hby d4_83) hr
  · show Qown_expected Z g ord gA oA kg ko i h0 n0 _ s₁.heap _
    rw [e0]
    exact ⟨rfl, N0, rfl⟩
theorem ef_join (m : MethodId) (x0 : Addr) (x1 x2 : Int32) : entryFrame m #[.ref x0, .int x1, .int x2] 5 = mkF m 0 #[.val (.ref x0), .val (.int x1), .val (.int x2), .unset, .unset] [] := by first | (simp [entryFrame, mkF, argsToLocals, Value.category]; done) | rfl
theorem d6_0 : decode method_3_code 0 = .ok (.aload_n 0, 1) := by decide +kernel
theorem d6_1 : decode method_3_code 1 = .ok (.iload_n 1, 1) := by decide +kernel
theorem d6_2 : decode method_3_code 2 = .ok (.iaload, 1) := by decide +kernel
theorem d6_3 : decode method_3_code 3 = .ok (.istore_n 3, 1) := by decide +kernel
theorem d6_4 : decode method_3_code 4 = .ok (.aload_n 0, 1) := by decide +kernel
theorem d6_5 : decode method_3_code 5 = .ok (.iload_n 2, 1) := by decide +kernel
theorem d6_6 : decode method_3_code 6 = .ok (.iaload, 1) := by decide +kernel
theorem d6_7 : decode method_3_code 7 = .ok (.istore 4, 2) := by decide +kernel
theorem d6_9 : decode method_3_code 9 = .ok (.aload_n 0, 1) := by decide +kernel
theorem d6_10 : decode method_3_code 10 = .ok (.iconst 0, 1) := by decide +kernel
theorem d6_11 : decode method_3_code 11 = .ok (.iaload, 1) := by decide +kernel
theorem d6_12 : decode method_3_code 12 = .ok (.iload 4, 2) := by decide +kernel
theorem d6_14 : decode method_3_code 14 = .ok (.if_icmp .ne 7, 3) := by decide +kernel
theorem d6_17 : decode method_3_code 17 = .ok (.aload_n 0, 1) := by decide +kernel
theorem d6_18 : decode method_3_code 18 = .ok (.iconst 0, 1) := by decide +kernel
theorem d6_19 : decode method_3_code 19 = .ok (.iload_n 3, 1) := by decide +kernel
theorem d6_20 : decode method_3_code 20 = .ok (.iastore, 1) := by decide +kernel
theorem d6_21 : decode method_3_code 21 = .ok (.aload_n 0, 1) := by decide +kernel
theorem d6_22 : decode method_3_code 22 = .ok (.iconst 1, 1) := by decide +kernel
theorem d6_23 : decode method_3_code 23 = .ok (.iaload, 1) := by decide +kernel
theorem d6_24 : decode method_3_code 24 = .ok (.iload 4, 2) := by decide +kernel
theorem d6_26 : decode method_3_code 26 = .ok (.if_icmp .ne 7, 3) := by decide +kernel
theorem d6_29 : decode method_3_code 29 = .ok (.aload_n 0, 1) := by decide +kernel
theorem d6_30 : decode method_3_code 30 = .ok (.iconst 1, 1) := by decide +kernel
theorem d6_31 : decode method_3_code 31 = .ok (.iload_n 3, 1) := by decide +kernel
theorem d6_32 : decode method_3_code 32 = .ok (.iastore, 1) := by decide +kernel
theorem d6_33 : decode method_3_code 33 = .ok (.aload_n 0, 1) := by decide +kernel
theorem d6_34 : decode method_3_code 34 = .ok (.iconst 2, 1) := by decide +kernel
theorem d6_35 : decode method_3_code 35 = .ok (.iaload, 1) := by decide +kernel
theorem d6_36 : decode method_3_code 36 = .ok (.iload 4, 2) := by decide +kernel
theorem d6_38 : decode method_3_code 38 = .ok (.if_icmp .ne 7, 3) := by decide +kernel
theorem d6_41 : decode method_3_code 41 = .ok (.aload_n 0, 1) := by decide +kernel
theorem d6_42 : decode method_3_code 42 = .ok (.iconst 2, 1) := by decide +kernel
theorem d6_43 : decode method_3_code 43 = .ok (.iload_n 3, 1) := by decide +kernel
theorem d6_44 : decode method_3_code 44 = .ok (.iastore, 1) := by decide +kernel
theorem d6_45 : decode method_3_code 45 = .ok (.aload_n 0, 1) := by decide +kernel
theorem d6_46 : decode method_3_code 46 = .ok (.iconst 3, 1) := by decide +kernel
theorem d6_47 : decode method_3_code 47 = .ok (.iaload, 1) := by decide +kernel
theorem d6_48 : decode method_3_code 48 = .ok (.iload 4, 2) := by decide +kernel
theorem d6_50 : decode method_3_code 50 = .ok (.if_icmp .ne 7, 3) := by decide +kernel
theorem d6_53 : decode method_3_code 53 = .ok (.aload_n 0, 1) := by decide +kernel
theorem d6_54 : decode method_3_code 54 = .ok (.iconst 3, 1) := by decide +kernel
theorem d6_55 : decode method_3_code 55 = .ok (.iload_n 3, 1) := by decide +kernel
theorem d6_56 : decode method_3_code 56 = .ok (.iastore, 1) := by decide +kernel
theorem d6_57 : decode method_3_code 57 = .ok (.return_, 1) := by decide +kernel
def Qown_join (Z : State) (g : Fin 4 → Int32) (gA : Addr) (kg : ClassId) (i j : Fin 4) (h0 : Heap) (n0 : Nat) (v : Option Value) (h : Heap) (L : List Loc) : Prop := v = none ∧ Fr n0 L ∧ Keep h0 h [gA] ∧ Arv Z h gA kg .int (4 : Int32) [.int (own_jn g i j 0), .int (own_jn g i j 1), .int (own_jn g i j 2), .int (own_jn g i j 3)] (.int (0 : Int32))
set_option maxRecDepth 65536 in
set_option maxHeartbeats 40000000 in
theorem own_join (l : Launch) (Z : State) (a0 : Array Value) (hw : ∀ d ∈ tables_1, d.before a0 Z = true) (ws : List Jvm.Cond) (g : Fin 4 → Int32) (gA : Addr) (kg : ClassId) (i j : Fin 4) (h0 : Heap) (n0 : Nat) (O0 : Old Z n0 h0) (Vg : Arv Z h0 gA kg .int (4 : Int32) [.int (g 0), .int (g 1), .int (g 2), .int (g 3)] (.int (0 : Int32))) (g_gA : n0 ≤ gA) :
    MetFree l (⟨"com/example/pentad/pentad/tx/TempIdRootPinLaw", "join", "([III)V"⟩ : MethodName) (head1 (Jvm.Cond.code (⟨"com/example/pentad/pentad/tx/TempIdRootPinLaw", "join", "([III)V"⟩ : MethodName) method_3_code 5 none :: ws) ({ frames := 0, cells := 0, slots := 0, locals := 0 } : Room)) (fun a U => a = #[.ref gA, .int (own_ix i), .int (own_ix j)] ∧ Z.Warmed39 U.vm ∧ U.heap = h0) (fun _ _ _ _ _ => True) (fun _ U o U' => ∃ v L, o = .returned v ∧ Qown_join Z g gA kg i j h0 n0 v U'.heap L ∧ FrameEnd U o U' L ({ frames := 0, cells := 0, slots := 0, locals := 0 } : Room).cells ({ frames := 0, cells := 0, slots := 0, locals := 0 } : Room).slots) := by
  refine MetFree.of_bodySF (plainFor_of_name pn_2) hisR ?_
  intro p e s m args below meth c s₁ Bd hml0 hP hK
  obtain ⟨rfl, hZ, hh⟩ := hP
  have hx := Bd.exec
  have hby := Bd.bytes
  have hml : c.maxLocals = 5 := hml0
  have hown : s.vm.findClass "com/example/pentad/pentad/tx/TempIdRootPinLaw" = some m.cls := findClass_of_methodNamed Bd.named
  have hnm := (name_of_methodNamed Bd.named Bd.method).1
  have X0 : Stand p l e ({ frames := 0, cells := 0, slots := 0, locals := 0 } : Room) s m #[.ref gA, .int (own_ix i), .int (own_ix j)] below meth c s₁ [] 0 0 := Stand.of_body Bd
  have e0 : s₁.heap = h0 := by rw [← hh, Bd.state]; rfl
  have N0 := Fr.nil n0
  have pre0 : ∀ tgt, Steps p.tables e below (s₁.setTop (mkF m 0 #[.val (.ref gA), .val (.int (own_ix i)), .val (.int (own_ix j)), .unset, .unset] [])) tgt → Steps p.tables e below (s₁.setTop (entryFrame m #[.ref gA, .int (own_ix i), .int (own_ix j)] 5)) tgt := fun tgt k => castTop (ef_join m gA (own_ix i) (own_ix j)) k
  obtain ⟨cl1024, Ar1024, q1024, S1024, M1024, Hs1024, G1024⟩ := id Vg
  have hin1024 : ¬ ((own_ix i) < 0 ∨ cl1024.slots.size ≤ ((own_ix i)).toNatClampNeg) := inb_of S1024 (own_ixb i)
  have hat1024 : cl1024.slots[((own_ix i)).toNatClampNeg]? = some (.int (g i)) := Has.at Hs1024 hin1024 (own_getI g i _)
  obtain ⟨cl1025, Ar1025, q1025, S1025, M1025, Hs1025, G1025⟩ := id Vg
  have hin1025 : ¬ ((own_ix j) < 0 ∨ cl1025.slots.size ≤ ((own_ix j)).toNatClampNeg) := inb_of S1025 (own_ixb j)
  have hat1025 : cl1025.slots[((own_ix j)).toNatClampNeg]? = some (.int (g j)) := Has.at Hs1025 hin1025 (own_getI g j _)
  obtain ⟨cl1026, Ar1026, q1026, S1026, M1026, Hs1026, G1026⟩ := id Vg
  have hin1026 : ¬ ((0 : Int32) < 0 ∨ cl1026.slots.size ≤ ((0 : Int32)).toNatClampNeg) := inb_of S1026 ⟨by decide, by decide⟩
  have hat1026 : cl1026.slots[((0 : Int32)).toNatClampNeg]? = some (.int (g 0)) := Has.at Hs1026 hin1026 rfl
  by_cases hz0 : g 0 = g j
  · obtain ⟨cl1027, Ar1027, q1027, S1027, M1027, Hs1027, G1027⟩ := id Vg
    have hin1027 : ¬ ((0 : Int32) < 0 ∨ cl1027.slots.size ≤ ((0 : Int32)).toNatClampNeg) := inb_of S1027 ⟨by decide, by decide⟩
    obtain ⟨T1028, h1028, X1028, e1028, W1028, st1028⟩ := stI X0 hx hZ e0 Ar1027 (j := (0 : Int32)) hin1027 (g := (mkF m 20 #[.val (.ref gA), .val (.int (own_ix i)), .val (.int (own_ix j)), .val (.int (g i)), .val (.int (g j))] [(.int (g i)), (.int (0 : Int32)), (.ref gA)])) rfl rfl (hb hby d6_20)
    have K1028 : Keep h0 h1028 [gA] := (Keep.refl h0 [gA]).wr W1028 (Or.inl (List.mem_of_getElem? (i := 0) rfl))
    have O1028 : Old Z n0 h1028 := O0.wr W1028 g_gA
    have N1028 := Fr.snoc X1028 N0 g_gA
    have Vw1028 : Arv Z h1028 gA kg .int (4 : Int32) [(.int (g i)), (.int (g 1)), (.int (g 2)), (.int (g 3))] (.int (0 : Int32)) := Arv.set Ar1027 q1027 S1027 M1027 Hs1027 G1027 rfl W1028 0 rfl (Nat.le_of_ble_eq_true rfl)
    obtain ⟨cl1029, Ar1029, q1029, S1029, M1029, Hs1029, G1029⟩ := id Vw1028
    have hin1029 : ¬ ((1 : Int32) < 0 ∨ cl1029.slots.size ≤ ((1 : Int32)).toNatClampNeg) := inb_of S1029 ⟨by decide, by decide⟩
    have hat1029 : cl1029.slots[((1 : Int32)).toNatClampNeg]? = some (.int (g 1)) := Has.at Hs1029 hin1029 rfl
    by_cases hz1 : g 1 = g j
    · obtain ⟨cl1030, Ar1030, q1030, S1030, M1030, Hs1030, G1030⟩ := id Vw1028
      have hin1030 : ¬ ((1 : Int32) < 0 ∨ cl1030.slots.size ≤ ((1 : Int32)).toNatClampNeg) := inb_of S1030 ⟨by decide, by decide⟩
      obtain ⟨T1031, h1031, X1031, e1031, W1031, st1031⟩ := stI X1028 hx hZ e1028 Ar1030 (j := (1 : Int32)) hin1030 (g := (mkF m 32 #[.val (.ref gA), .val (.int (own_ix i)), .val (.int (own_ix j)), .val (.int (g i)), .val (.int (g j))] [(.int (g i)), (.int (1 : Int32)), (.ref gA)])) rfl rfl (hb hby d6_32)
      have K1031 : Keep h0 h1031 [gA] := K1028.wr W1031 (Or.inl (List.mem_of_getElem? (i := 0) rfl))
      have O1031 : Old Z n0 h1031 := O1028.wr W1031 g_gA
      have N1031 := Fr.snoc X1031 N1028 g_gA
      have Vw1031 : Arv Z h1031 gA kg .int (4 : Int32) [(.int (g i)), (.int (g i)), (.int (g 2)), (.int (g 3))] (.int (0 : Int32)) := Arv.set Ar1030 q1030 S1030 M1030 Hs1030 G1030 rfl W1031 1 rfl (Nat.le_of_ble_eq_true rfl)
      obtain ⟨cl1032, Ar1032, q1032, S1032, M1032, Hs1032, G1032⟩ := id Vw1031
      have hin1032 : ¬ ((2 : Int32) < 0 ∨ cl1032.slots.size ≤ ((2 : Int32)).toNatClampNeg) := inb_of S1032 ⟨by decide, by decide⟩
      have hat1032 : cl1032.slots[((2 : Int32)).toNatClampNeg]? = some (.int (g 2)) := Has.at Hs1032 hin1032 rfl
      by_cases hz2 : g 2 = g j
      · obtain ⟨cl1033, Ar1033, q1033, S1033, M1033, Hs1033, G1033⟩ := id Vw1031
        have hin1033 : ¬ ((2 : Int32) < 0 ∨ cl1033.slots.size ≤ ((2 : Int32)).toNatClampNeg) := inb_of S1033 ⟨by decide, by decide⟩
        obtain ⟨T1034, h1034, X1034, e1034, W1034, st1034⟩ := stI X1031 hx hZ e1031 Ar1033 (j := (2 : Int32)) hin1033 (g := (mkF m 44 #[.val (.ref gA), .val (.int (own_ix i)), .val (.int (own_ix j)), .val (.int (g i)), .val (.int (g j))] [(.int (g i)), (.int (2 : Int32)), (.ref gA)])) rfl rfl (hb hby d6_44)
        have K1034 : Keep h0 h1034 [gA] := K1031.wr W1034 (Or.inl (List.mem_of_getElem? (i := 0) rfl))
        have O1034 : Old Z n0 h1034 := O1031.wr W1034 g_gA
        have N1034 := Fr.snoc X1034 N1031 g_gA
        have Vw1034 : Arv Z h1034 gA kg .int (4 : Int32) [(.int (g i)), (.int (g i)), (.int (g i)), (.int (g 3))] (.int (0 : Int32)) := Arv.set Ar1033 q1033 S1033 M1033 Hs1033 G1033 rfl W1034 2 rfl (Nat.le_of_ble_eq_true rfl)
        obtain ⟨cl1035, Ar1035, q1035, S1035, M1035, Hs1035, G1035⟩ := id Vw1034
        have hin1035 : ¬ ((3 : Int32) < 0 ∨ cl1035.slots.size ≤ ((3 : Int32)).toNatClampNeg) := inb_of S1035 ⟨by decide, by decide⟩
        have hat1035 : cl1035.slots[((3 : Int32)).toNatClampNeg]? = some (.int (g 3)) := Has.at Hs1035 hin1035 rfl
        by_cases hz3 : g 3 = g j
        · obtain ⟨cl1036, Ar1036, q1036, S1036, M1036, Hs1036, G1036⟩ := id Vw1034
          have hin1036 : ¬ ((3 : Int32) < 0 ∨ cl1036.slots.size ≤ ((3 : Int32)).toNatClampNeg) := inb_of S1036 ⟨by decide, by decide⟩
          obtain ⟨T1037, h1037, X1037, e1037, W1037, st1037⟩ := stI X1034 hx hZ e1034 Ar1036 (j := (3 : Int32)) hin1036 (g := (mkF m 56 #[.val (.ref gA), .val (.int (own_ix i)), .val (.int (own_ix j)), .val (.int (g i)), .val (.int (g j))] [(.int (g i)), (.int (3 : Int32)), (.ref gA)])) rfl rfl (hb hby d6_56)
          have K1037 : Keep h0 h1037 [gA] := K1034.wr W1037 (Or.inl (List.mem_of_getElem? (i := 0) rfl))
          have O1037 : Old Z n0 h1037 := O1034.wr W1037 g_gA
          have N1037 := Fr.snoc X1037 N1034 g_gA
          have Vw1037 : Arv Z h1037 gA kg .int (4 : Int32) [(.int (g i)), (.int (g i)), (.int (g i)), (.int (g i))] (.int (0 : Int32)) := Arv.set Ar1036 q1036 S1036 M1036 Hs1036 G1036 rfl W1037 3 rfl (Nat.le_of_ble_eq_true rfl)
          obtain ⟨fs, hr, hrun, hended, hW, hsame⟩ := X1037.leave (v := none) (fun _ => rfl)
          refine ⟨_, _, pre0 _ ?_, hrun, hended, _, _, rfl, ?_, ⟨_, rfl⟩, hW, hsame.mono (by decide) (by decide)⟩
          · show Steps p.tables e below (s₁.setTop (mkF m 0 #[.val (.ref gA), .val (.int (own_ix i)), .val (.int (own_ix j)), .unset, .unset] [])) _
            refine XS.aloadN X0.here hx rfl (hb hby d6_0) rfl rfl ?_
            show Steps p.tables e below (s₁.setTop (mkF m 1 #[.val (.ref gA), .val (.int (own_ix i)), .val (.int (own_ix j)), .unset, .unset] [(.ref gA)])) _
            refine XS.iloadN X0.here hx rfl (hb hby d6_1) rfl ?_
            show Steps p.tables e below (s₁.setTop (mkF m 2 #[.val (.ref gA), .val (.int (own_ix i)), .val (.int (own_ix j)), .unset, .unset] [(.int (own_ix i)), (.ref gA)])) _
            refine X0.iaload hx (j := (own_ix i)) (v := (.int (g i))) (by rw [e0]; exact Ar1024.1) (State.isArrayOf_alike hZ.alike Ar1024.2.1) Ar1024.2.2 hin1024 hat1024 (g := (mkF m 2 #[.val (.ref gA), .val (.int (own_ix i)), .val (.int (own_ix j)), .unset, .unset] [(.int (own_ix i)), (.ref gA)])) rfl rfl (hb hby d6_2) _ ?_
            show Steps p.tables e below (s₁.setTop (mkF m 3 #[.val (.ref gA), .val (.int (own_ix i)), .val (.int (own_ix j)), .unset, .unset] [(.int (g i))])) _
            refine XS.istoreN X0.here hx rfl (hb hby d6_3) rfl (l' := #[.val (.ref gA), .val (.int (own_ix i)), .val (.int (own_ix j)), .val (.int (g i)), .unset]) rfl ?_
            show Steps p.tables e below (s₁.setTop (mkF m 4 #[.val (.ref gA), .val (.int (own_ix i)), .val (.int (own_ix j)), .val (.int (g i)), .unset] [])) _
            refine XS.aloadN X0.here hx rfl (hb hby d6_4) rfl rfl ?_
            show Steps p.tables e below (s₁.setTop (mkF m 5 #[.val (.ref gA), .val (.int (own_ix i)), .val (.int (own_ix j)), .val (.int (g i)), .unset] [(.ref gA)])) _
            refine XS.iloadN X0.here hx rfl (hb hby d6_5) rfl ?_
            show Steps p.tables e below (s₁.setTop (mkF m 6 #[.val (.ref gA), .val (.int (own_ix i)), .val (.int (own_ix j)), .val (.int (g i)), .unset] [(.int (own_ix j)), (.ref gA)])) _
            refine X0.iaload hx (j := (own_ix j)) (v := (.int (g j))) (by rw [e0]; exact Ar1025.1) (State.isArrayOf_alike hZ.alike Ar1025.2.1) Ar1025.2.2 hin1025 hat1025 (g := (mkF m 6 #[.val (.ref gA), .val (.int (own_ix i)), .val (.int (own_ix j)), .val (.int (g i)), .unset] [(.int (own_ix j)), (.ref gA)])) rfl rfl (hb hby d6_6) _ ?_
            show Steps p.tables e below (s₁.setTop (mkF m 7 #[.val (.ref gA), .val (.int (own_ix i)), .val (.int (own_ix j)), .val (.int (g i)), .unset] [(.int (g j))])) _
            refine XS.istore X0.here hx rfl (hb hby d6_7) rfl (l' := #[.val (.ref gA), .val (.int (own_ix i)), .val (.int (own_ix j)), .val (.int (g i)), .val (.int (g j))]) rfl ?_
            show Steps p.tables e below (s₁.setTop (mkF m 9 #[.val (.ref gA), .val (.int (own_ix i)), .val (.int (own_ix j)), .val (.int (g i)), .val (.int (g j))] [])) _
            refine XS.aloadN X0.here hx rfl (hb hby d6_9) rfl rfl ?_
            show Steps p.tables e below (s₁.setTop (mkF m 10 #[.val (.ref gA), .val (.int (own_ix i)), .val (.int (own_ix j)), .val (.int (g i)), .val (.int (g j))] [(.ref gA)])) _
            refine XS.iconst X0.here hx rfl (hb hby d6_10) ?_
            show Steps p.tables e below (s₁.setTop (mkF m 11 #[.val (.ref gA), .val (.int (own_ix i)), .val (.int (own_ix j)), .val (.int (g i)), .val (.int (g j))] [(.int (0 : Int32)), (.ref gA)])) _
            refine X0.iaload hx (j := (0 : Int32)) (v := (.int (g 0))) (by rw [e0]; exact Ar1026.1) (State.isArrayOf_alike hZ.alike Ar1026.2.1) Ar1026.2.2 hin1026 hat1026 (g := (mkF m 11 #[.val (.ref gA), .val (.int (own_ix i)), .val (.int (own_ix j)), .val (.int (g i)), .val (.int (g j))] [(.int (0 : Int32)), (.ref gA)])) rfl rfl (hb hby d6_11) _ ?_
            show Steps p.tables e below (s₁.setTop (mkF m 12 #[.val (.ref gA), .val (.int (own_ix i)), .val (.int (own_ix j)), .val (.int (g i)), .val (.int (g j))] [(.int (g 0))])) _
            refine XS.iload X0.here hx rfl (hb hby d6_12) rfl ?_
            show Steps p.tables e below (s₁.setTop (mkF m 14 #[.val (.ref gA), .val (.int (own_ix i)), .val (.int (own_ix j)), .val (.int (g i)), .val (.int (g j))] [(.int (g j)), (.int (g 0))])) _
            refine XS.icmpNo X0.here hx rfl (hb hby d6_14) rfl (teq (hz0 : (g 0) = (g j))).2 ?_
            show Steps p.tables e below (s₁.setTop (mkF m 17 #[.val (.ref gA), .val (.int (own_ix i)), .val (.int (own_ix j)), .val (.int (g i)), .val (.int (g j))] [])) _
            refine XS.aloadN X0.here hx rfl (hb hby d6_17) rfl rfl ?_
            show Steps p.tables e below (s₁.setTop (mkF m 18 #[.val (.ref gA), .val (.int (own_ix i)), .val (.int (own_ix j)), .val (.int (g i)), .val (.int (g j))] [(.ref gA)])) _
            refine XS.iconst X0.here hx rfl (hb hby d6_18) ?_
            show Steps p.tables e below (s₁.setTop (mkF m 19 #[.val (.ref gA), .val (.int (own_ix i)), .val (.int (own_ix j)), .val (.int (g i)), .val (.int (g j))] [(.int (0 : Int32)), (.ref gA)])) _
            refine XS.iloadN X0.here hx rfl (hb hby d6_19) rfl ?_
            show Steps p.tables e below (s₁.setTop (mkF m 20 #[.val (.ref gA), .val (.int (own_ix i)), .val (.int (own_ix j)), .val (.int (g i)), .val (.int (g j))] [(.int (g i)), (.int (0 : Int32)), (.ref gA)])) _
            refine st1028 _ ?_
            show Steps p.tables e below (T1028.setTop (mkF m 21 #[.val (.ref gA), .val (.int (own_ix i)), .val (.int (own_ix j)), .val (.int (g i)), .val (.int (g j))] [])) _
            refine XS.aloadN X1028.here hx rfl (hb hby d6_21) rfl rfl ?_
            show Steps p.tables e below (T1028.setTop (mkF m 22 #[.val (.ref gA), .val (.int (own_ix i)), .val (.int (own_ix j)), .val (.int (g i)), .val (.int (g j))] [(.ref gA)])) _
            refine XS.iconst X1028.here hx rfl (hb hby d6_22) ?_
            show Steps p.tables e below (T1028.setTop (mkF m 23 #[.val (.ref gA), .val (.int (own_ix i)), .val (.int (own_ix j)), .val (.int (g i)), .val (.int (g j))] [(.int (1 : Int32)), (.ref gA)])) _
            refine X1028.iaload hx (j := (1 : Int32)) (v := (.int (g 1))) (by rw [e1028]; exact Ar1029.1) (State.isArrayOf_alike hZ.alike Ar1029.2.1) Ar1029.2.2 hin1029 hat1029 (g := (mkF m 23 #[.val (.ref gA), .val (.int (own_ix i)), .val (.int (own_ix j)), .val (.int (g i)), .val (.int (g j))] [(.int (1 : Int32)), (.ref gA)])) rfl rfl (hb hby d6_23) _ ?_
            show Steps p.tables e below (T1028.setTop (mkF m 24 #[.val (.ref gA), .val (.int (own_ix i)), .val (.int (own_ix j)), .val (.int (g i)), .val (.int (g j))] [(.int (g 1))])) _
            refine XS.iload X1028.here hx rfl (hb hby d6_24) rfl ?_
            show Steps p.tables e below (T1028.setTop (mkF m 26 #[.val (.ref gA), .val (.int (own_ix i)), .val (.int (own_ix j)), .val (.int (g i)), .val (.int (g j))] [(.int (g j)), (.int (g 1))])) _
            refine XS.icmpNo X1028.here hx rfl (hb hby d6_26) rfl (teq (hz1 : (g 1) = (g j))).2 ?_
            show Steps p.tables e below (T1028.setTop (mkF m 29 #[.val (.ref gA), .val (.int (own_ix i)), .val (.int (own_ix j)), .val (.int (g i)), .val (.int (g j))] [])) _
            refine XS.aloadN X1028.here hx rfl (hb hby d6_29) rfl rfl ?_
            show Steps p.tables e below (T1028.setTop (mkF m 30 #[.val (.ref gA), .val (.int (own_ix i)), .val (.int (own_ix j)), .val (.int (g i)), .val (.int (g j))] [(.ref gA)])) _
            refine XS.iconst X1028.here hx rfl (hb hby d6_30) ?_
            show Steps p.tables e below (T1028.setTop (mkF m 31 #[.val (.ref gA), .val (.int (own_ix i)), .val (.int (own_ix j)), .val (.int (g i)), .val (.int (g j))] [(.int (1 : Int32)), (.ref gA)])) _
            refine XS.iloadN X1028.here hx rfl (hb hby d6_31) rfl ?_
            show Steps p.tables e below (T1028.setTop (mkF m 32 #[.val (.ref gA), .val (.int (own_ix i)), .val (.int (own_ix j)), .val (.int (g i)), .val (.int (g j))] [(.int (g i)), (.int (1 : Int32)), (.ref gA)])) _
            refine st1031 _ ?_
            show Steps p.tables e below (T1031.setTop (mkF m 33 #[.val (.ref gA), .val (.int (own_ix i)), .val (.int (own_ix j)), .val (.int (g i)), .val (.int (g j))] [])) _
            refine XS.aloadN X1031.here hx rfl (hb hby d6_33) rfl rfl ?_
            show Steps p.tables e below (T1031.setTop (mkF m 34 #[.val (.ref gA), .val (.int (own_ix i)), .val (.int (own_ix j)), .val (.int (g i)), .val (.int (g j))] [(.ref gA)])) _
            refine XS.iconst X1031.here hx rfl (hb hby d6_34) ?_
            show Steps p.tables e below (T1031.setTop (mkF m 35 #[.val (.ref gA), .val (.int (own_ix i)), .val (.int (own_ix j)), .val (.int (g i)), .val (.int (g j))] [(.int (2 : Int32)), (.ref gA)])) _
            refine X1031.iaload hx (j := (2 : Int32)) (v := (.int (g 2))) (by rw [e1031]; exact Ar1032.1) (State.isArrayOf_alike hZ.alike Ar1032.2.1) Ar1032.2.2 hin1032 hat1032 (g := (mkF m 35 #[.val (.ref gA), .val (.int (own_ix i)), .val (.int (own_ix j)), .val (.int (g i)), .val (.int (g j))] [(.int (2 : Int32)), (.ref gA)])) rfl rfl (hb hby d6_35) _ ?_
            show Steps p.tables e below (T1031.setTop (mkF m 36 #[.val (.ref gA), .val (.int (own_ix i)), .val (.int (own_ix j)), .val (.int (g i)), .val (.int (g j))] [(.int (g 2))])) _
            refine XS.iload X1031.here hx rfl (hb hby d6_36) rfl ?_
            show Steps p.tables e below (T1031.setTop (mkF m 38 #[.val (.ref gA), .val (.int (own_ix i)), .val (.int (own_ix j)), .val (.int (g i)), .val (.int (g j))] [(.int (g j)), (.int (g 2))])) _
            refine XS.icmpNo X1031.here hx rfl (hb hby d6_38) rfl (teq (hz2 : (g 2) = (g j))).2 ?_
            show Steps p.tables e below (T1031.setTop (mkF m 41 #[.val (.ref gA), .val (.int (own_ix i)), .val (.int (own_ix j)), .val (.int (g i)), .val (.int (g j))] [])) _
            refine XS.aloadN X1031.here hx rfl (hb hby d6_41) rfl rfl ?_
            show Steps p.tables e below (T1031.setTop (mkF m 42 #[.val (.ref gA), .val (.int (own_ix i)), .val (.int (own_ix j)), .val (.int (g i)), .val (.int (g j))] [(.ref gA)])) _
            refine XS.iconst X1031.here hx rfl (hb hby d6_42) ?_
            show Steps p.tables e below (T1031.setTop (mkF m 43 #[.val (.ref gA), .val (.int (own_ix i)), .val (.int (own_ix j)), .val (.int (g i)), .val (.int (g j))] [(.int (2 : Int32)), (.ref gA)])) _
            refine XS.iloadN X1031.here hx rfl (hb hby d6_43) rfl ?_
            show Steps p.tables e below (T1031.setTop (mkF m 44 #[.val (.ref gA), .val (.int (own_ix i)), .val (.int (own_ix j)), .val (.int (g i)), .val (.int (g j))] [(.int (g i)), (.int (2 : Int32)), (.ref gA)])) _
            refine st1034 _ ?_
            show Steps p.tables e below (T1034.setTop (mkF m 45 #[.val (.ref gA), .val (.int (own_ix i)), .val (.int (own_ix j)), .val (.int (g i)), .val (.int (g j))] [])) _
            refine XS.aloadN X1034.here hx rfl (hb hby d6_45) rfl rfl ?_
            show Steps p.tables e below (T1034.setTop (mkF m 46 #[.val (.ref gA), .val (.int (own_ix i)), .val (.int (own_ix j)), .val (.int (g i)), .val (.int (g j))] [(.ref gA)])) _
            refine XS.iconst X1034.here hx rfl (hb hby d6_46) ?_
            show Steps p.tables e below (T1034.setTop (mkF m 47 #[.val (.ref gA), .val (.int (own_ix i)), .val (.int (own_ix j)), .val (.int (g i)), .val (.int (g j))] [(.int (3 : Int32)), (.ref gA)])) _
            refine X1034.iaload hx (j := (3 : Int32)) (v := (.int (g 3))) (by rw [e1034]; exact Ar1035.1) (State.isArrayOf_alike hZ.alike Ar1035.2.1) Ar1035.2.2 hin1035 hat1035 (g := (mkF m 47 #[.val (.ref gA), .val (.int (own_ix i)), .val (.int (own_ix j)), .val (.int (g i)), .val (.int (g j))] [(.int (3 : Int32)), (.ref gA)])) rfl rfl (hb hby d6_47) _ ?_
            show Steps p.tables e below (T1034.setTop (mkF m 48 #[.val (.ref gA), .val (.int (own_ix i)), .val (.int (own_ix j)), .val (.int (g i)), .val (.int (g j))] [(.int (g 3))])) _
            refine XS.iload X1034.here hx rfl (hb hby d6_48) rfl ?_
            show Steps p.tables e below (T1034.setTop (mkF m 50 #[.val (.ref gA), .val (.int (own_ix i)), .val (.int (own_ix j)), .val (.int (g i)), .val (.int (g j))] [(.int (g j)), (.int (g 3))])) _
            refine XS.icmpNo X1034.here hx rfl (hb hby d6_50) rfl (teq (hz3 : (g 3) = (g j))).2 ?_
            show Steps p.tables e below (T1034.setTop (mkF m 53 #[.val (.ref gA), .val (.int (own_ix i)), .val (.int (own_ix j)), .val (.int (g i)), .val (.int (g j))] [])) _
            refine XS.aloadN X1034.here hx rfl (hb hby d6_53) rfl rfl ?_
            show Steps p.tables e below (T1034.setTop (mkF m 54 #[.val (.ref gA), .val (.int (own_ix i)), .val (.int (own_ix j)), .val (.int (g i)), .val (.int (g j))] [(.ref gA)])) _
            refine XS.iconst X1034.here hx rfl (hb hby d6_54) ?_
            show Steps p.tables e below (T1034.setTop (mkF m 55 #[.val (.ref gA), .val (.int (own_ix i)), .val (.int (own_ix j)), .val (.int (g i)), .val (.int (g j))] [(.int (3 : Int32)), (.ref gA)])) _
            refine XS.iloadN X1034.here hx rfl (hb hby d6_55) rfl ?_
            show Steps p.tables e below (T1034.setTop (mkF m 56 #[.val (.ref gA), .val (.int (own_ix i)), .val (.int (own_ix j)), .val (.int (g i)), .val (.int (g j))] [(.int (g i)), (.int (3 : Int32)), (.ref gA)])) _
            refine st1037 _ ?_
            show Steps p.tables e below (T1037.setTop (mkF m 57 #[.val (.ref gA), .val (.int (own_ix i)), .val (.int (own_ix j)), .val (.int (g i)), .val (.int (g j))] [])) _
            exact X1037.returnOut hx Bd.returns (hb hby d6_57) hr
          · show Qown_join Z g gA kg i j h0 n0 _ T1037.heap _
            rw [e1037]
            refine ⟨rfl, N1037, K1037, ?_⟩
            rw [show own_jn g i j 0 = g i from if_pos hz0, show own_jn g i j 1 = g i from if_pos hz1, show own_jn g i j 2 = g i from if_pos hz2, show own_jn g i j 3 = g i from if_pos hz3]
            exact Vw1037
        · obtain ⟨fs, hr, hrun, hended, hW, hsame⟩ := X1034.leave (v := none) (fun _ => rfl)
          refine ⟨_, _, pre0 _ ?_, hrun, hended, _, _, rfl, ?_, ⟨_, rfl⟩, hW, hsame.mono (by decide) (by decide)⟩
          · show Steps p.tables e below (s₁.setTop (mkF m 0 #[.val (.ref gA), .val (.int (own_ix i)), .val (.int (own_ix j)), .unset, .unset] [])) _
            refine XS.aloadN X0.here hx rfl (hb hby d6_0) rfl rfl ?_
            show Steps p.tables e below (s₁.setTop (mkF m 1 #[.val (.ref gA), .val (.int (own_ix i)), .val (.int (own_ix j)), .unset, .unset] [(.ref gA)])) _
            refine XS.iloadN X0.here hx rfl (hb hby d6_1) rfl ?_
            show Steps p.tables e below (s₁.setTop (mkF m 2 #[.val (.ref gA), .val (.int (own_ix i)), .val (.int (own_ix j)), .unset, .unset] [(.int (own_ix i)), (.ref gA)])) _
            refine X0.iaload hx (j := (own_ix i)) (v := (.int (g i))) (by rw [e0]; exact Ar1024.1) (State.isArrayOf_alike hZ.alike Ar1024.2.1) Ar1024.2.2 hin1024 hat1024 (g := (mkF m 2 #[.val (.ref gA), .val (.int (own_ix i)), .val (.int (own_ix j)), .unset, .unset] [(.int (own_ix i)), (.ref gA)])) rfl rfl (hb hby d6_2) _ ?_
            show Steps p.tables e below (s₁.setTop (mkF m 3 #[.val (.ref gA), .val (.int (own_ix i)), .val (.int (own_ix j)), .unset, .unset] [(.int (g i))])) _
            refine XS.istoreN X0.here hx rfl (hb hby d6_3) rfl (l' := #[.val (.ref gA), .val (.int (own_ix i)), .val (.int (own_ix j)), .val (.int (g i)), .unset]) rfl ?_
            show Steps p.tables e below (s₁.setTop (mkF m 4 #[.val (.ref gA), .val (.int (own_ix i)), .val (.int (own_ix j)), .val (.int (g i)), .unset] [])) _
            refine XS.aloadN X0.here hx rfl (hb hby d6_4) rfl rfl ?_
            show Steps p.tables e below (s₁.setTop (mkF m 5 #[.val (.ref gA), .val (.int (own_ix i)), .val (.int (own_ix j)), .val (.int (g i)), .unset] [(.ref gA)])) _
            refine XS.iloadN X0.here hx rfl (hb hby d6_5) rfl ?_
            show Steps p.tables e below (s₁.setTop (mkF m 6 #[.val (.ref gA), .val (.int (own_ix i)), .val (.int (own_ix j)), .val (.int (g i)), .unset] [(.int (own_ix j)), (.ref gA)])) _
            refine X0.iaload hx (j := (own_ix j)) (v := (.int (g j))) (by rw [e0]; exact Ar1025.1) (State.isArrayOf_alike hZ.alike Ar1025.2.1) Ar1025.2.2 hin1025 hat1025 (g := (mkF m 6 #[.val (.ref gA), .val (.int (own_ix i)), .val (.int (own_ix j)), .val (.int (g i)), .unset] [(.int (own_ix j)), (.ref gA)])) rfl rfl (hb hby d6_6) _ ?_
            show Steps p.tables e below (s₁.setTop (mkF m 7 #[.val (.ref gA), .val (.int (own_ix i)), .val (.int (own_ix j)), .val (.int (g i)), .unset] [(.int (g j))])) _
            refine XS.istore X0.here hx rfl (hb hby d6_7) rfl (l' := #[.val (.ref gA), .val (.int (own_ix i)), .val (.int (own_ix j)), .val (.int (g i)), .val (.int (g j))]) rfl ?_
            show Steps p.tables e below (s₁.setTop (mkF m 9 #[.val (.ref gA), .val (.int (own_ix i)), .val (.int (own_ix j)), .val (.int (g i)), .val (.int (g j))] [])) _
            refine XS.aloadN X0.here hx rfl (hb hby d6_9) rfl rfl ?_
            show Steps p.tables e below (s₁.setTop (mkF m 10 #[.val (.ref gA), .val (.int (own_ix i)), .val (.int (own_ix j)), .val (.int (g i)), .val (.int (g j))] [(.ref gA)])) _
            refine XS.iconst X0.here hx rfl (hb hby d6_10) ?_
            show Steps p.tables e below (s₁.setTop (mkF m 11 #[.val (.ref gA), .val (.int (own_ix i)), .val (.int (own_ix j)), .val (.int (g i)), .val (.int (g j))] [(.int (0 : Int32)), (.ref gA)])) _
            refine X0.iaload hx (j := (0 : Int32)) (v := (.int (g 0))) (by rw [e0]; exact Ar1026.1) (State.isArrayOf_alike hZ.alike Ar1026.2.1) Ar1026.2.2 hin1026 hat1026 (g := (mkF m 11 #[.val (.ref gA), .val (.int (own_ix i)), .val (.int (own_ix j)), .val (.int (g i)), .val (.int (g j))] [(.int (0 : Int32)), (.ref gA)])) rfl rfl (hb hby d6_11) _ ?_
            show Steps p.tables e below (s₁.setTop (mkF m 12 #[.val (.ref gA), .val (.int (own_ix i)), .val (.int (own_ix j)), .val (.int (g i)), .val (.int (g j))] [(.int (g 0))])) _
            refine XS.iload X0.here hx rfl (hb hby d6_12) rfl ?_
            show Steps p.tables e below (s₁.setTop (mkF m 14 #[.val (.ref gA), .val (.int (own_ix i)), .val (.int (own_ix j)), .val (.int (g i)), .val (.int (g j))] [(.int (g j)), (.int (g 0))])) _
            refine XS.icmpNo X0.here hx rfl (hb hby d6_14) rfl (teq (hz0 : (g 0) = (g j))).2 ?_
            show Steps p.tables e below (s₁.setTop (mkF m 17 #[.val (.ref gA), .val (.int (own_ix i)), .val (.int (own_ix j)), .val (.int (g i)), .val (.int (g j))] [])) _
            refine XS.aloadN X0.here hx rfl (hb hby d6_17) rfl rfl ?_
            show Steps p.tables e below (s₁.setTop (mkF m 18 #[.val (.ref gA), .val (.int (own_ix i)), .val (.int (own_ix j)), .val (.int (g i)), .val (.int (g j))] [(.ref gA)])) _
            refine XS.iconst X0.here hx rfl (hb hby d6_18) ?_
            show Steps p.tables e below (s₁.setTop (mkF m 19 #[.val (.ref gA), .val (.int (own_ix i)), .val (.int (own_ix j)), .val (.int (g i)), .val (.int (g j))] [(.int (0 : Int32)), (.ref gA)])) _
            refine XS.iloadN X0.here hx rfl (hb hby d6_19) rfl ?_
            show Steps p.tables e below (s₁.setTop (mkF m 20 #[.val (.ref gA), .val (.int (own_ix i)), .val (.int (own_ix j)), .val (.int (g i)), .val (.int (g j))] [(.int (g i)), (.int (0 : Int32)), (.ref gA)])) _
            refine st1028 _ ?_
            show Steps p.tables e below (T1028.setTop (mkF m 21 #[.val (.ref gA), .val (.int (own_ix i)), .val (.int (own_ix j)), .val (.int (g i)), .val (.int (g j))] [])) _
            refine XS.aloadN X1028.here hx rfl (hb hby d6_21) rfl rfl ?_
            show Steps p.tables e below (T1028.setTop (mkF m 22 #[.val (.ref gA), .val (.int (own_ix i)), .val (.int (own_ix j)), .val (.int (g i)), .val (.int (g j))] [(.ref gA)])) _
            refine XS.iconst X1028.here hx rfl (hb hby d6_22) ?_
            show Steps p.tables e below (T1028.setTop (mkF m 23 #[.val (.ref gA), .val (.int (own_ix i)), .val (.int (own_ix j)), .val (.int (g i)), .val (.int (g j))] [(.int (1 : Int32)), (.ref gA)])) _
            refine X1028.iaload hx (j := (1 : Int32)) (v := (.int (g 1))) (by rw [e1028]; exact Ar1029.1) (State.isArrayOf_alike hZ.alike Ar1029.2.1) Ar1029.2.2 hin1029 hat1029 (g := (mkF m 23 #[.val (.ref gA), .val (.int (own_ix i)), .val (.int (own_ix j)), .val (.int (g i)), .val (.int (g j))] [(.int (1 : Int32)), (.ref gA)])) rfl rfl (hb hby d6_23) _ ?_
            show Steps p.tables e below (T1028.setTop (mkF m 24 #[.val (.ref gA), .val (.int (own_ix i)), .val (.int (own_ix j)), .val (.int (g i)), .val (.int (g j))] [(.int (g 1))])) _
            refine XS.iload X1028.here hx rfl (hb hby d6_24) rfl ?_
            show Steps p.tables e below (T1028.setTop (mkF m 26 #[.val (.ref gA), .val (.int (own_ix i)), .val (.int (own_ix j)), .val (.int (g i)), .val (.int (g j))] [(.int (g j)), (.int (g 1))])) _
            refine XS.icmpNo X1028.here hx rfl (hb hby d6_26) rfl (teq (hz1 : (g 1) = (g j))).2 ?_
            show Steps p.tables e below (T1028.setTop (mkF m 29 #[.val (.ref gA), .val (.int (own_ix i)), .val (.int (own_ix j)), .val (.int (g i)), .val (.int (g j))] [])) _
            refine XS.aloadN X1028.here hx rfl (hb hby d6_29) rfl rfl ?_
            show Steps p.tables e below (T1028.setTop (mkF m 30 #[.val (.ref gA), .val (.int (own_ix i)), .val (.int (own_ix j)), .val (.int (g i)), .val (.int (g j))] [(.ref gA)])) _
            refine XS.iconst X1028.here hx rfl (hb hby d6_30) ?_
            show Steps p.tables e below (T1028.setTop (mkF m 31 #[.val (.ref gA), .val (.int (own_ix i)), .val (.int (own_ix j)), .val (.int (g i)), .val (.int (g j))] [(.int (1 : Int32)), (.ref gA)])) _
            refine XS.iloadN X1028.here hx rfl (hb hby d6_31) rfl ?_
            show Steps p.tables e below (T1028.setTop (mkF m 32 #[.val (.ref gA), .val (.int (own_ix i)), .val (.int (own_ix j)), .val (.int (g i)), .val (.int (g j))] [(.int (g i)), (.int (1 : Int32)), (.ref gA)])) _
            refine st1031 _ ?_
            show Steps p.tables e below (T1031.setTop (mkF m 33 #[.val (.ref gA), .val (.int (own_ix i)), .val (.int (own_ix j)), .val (.int (g i)), .val (.int (g j))] [])) _
            refine XS.aloadN X1031.here hx rfl (hb hby d6_33) rfl rfl ?_
            show Steps p.tables e below (T1031.setTop (mkF m 34 #[.val (.ref gA), .val (.int (own_ix i)), .val (.int (own_ix j)), .val (.int (g i)), .val (.int (g j))] [(.ref gA)])) _
            refine XS.iconst X1031.here hx rfl (hb hby d6_34) ?_
            show Steps p.tables e below (T1031.setTop (mkF m 35 #[.val (.ref gA), .val (.int (own_ix i)), .val (.int (own_ix j)), .val (.int (g i)), .val (.int (g j))] [(.int (2 : Int32)), (.ref gA)])) _
            refine X1031.iaload hx (j := (2 : Int32)) (v := (.int (g 2))) (by rw [e1031]; exact Ar1032.1) (State.isArrayOf_alike hZ.alike Ar1032.2.1) Ar1032.2.2 hin1032 hat1032 (g := (mkF m 35 #[.val (.ref gA), .val (.int (own_ix i)), .val (.int (own_ix j)), .val (.int (g i)), .val (.int (g j))] [(.int (2 : Int32)), (.ref gA)])) rfl rfl (hb hby d6_35) _ ?_
            show Steps p.tables e below (T1031.setTop (mkF m 36 #[.val (.ref gA), .val (.int (own_ix i)), .val (.int (own_ix j)), .val (.int (g i)), .val (.int (g j))] [(.int (g 2))])) _
            refine XS.iload X1031.here hx rfl (hb hby d6_36) rfl ?_
            show Steps p.tables e below (T1031.setTop (mkF m 38 #[.val (.ref gA), .val (.int (own_ix i)), .val (.int (own_ix j)), .val (.int (g i)), .val (.int (g j))] [(.int (g j)), (.int (g 2))])) _
            refine XS.icmpNo X1031.here hx rfl (hb hby d6_38) rfl (teq (hz2 : (g 2) = (g j))).2 ?_
            show Steps p.tables e below (T1031.setTop (mkF m 41 #[.val (.ref gA), .val (.int (own_ix i)), .val (.int (own_ix j)), .val (.int (g i)), .val (.int (g j))] [])) _
            refine XS.aloadN X1031.here hx rfl (hb hby d6_41) rfl rfl ?_
            show Steps p.tables e below (T1031.setTop (mkF m 42 #[.val (.ref gA), .val (.int (own_ix i)), .val (.int (own_ix j)), .val (.int (g i)), .val (.int (g j))] [(.ref gA)])) _
            refine XS.iconst X1031.here hx rfl (hb hby d6_42) ?_
            show Steps p.tables e below (T1031.setTop (mkF m 43 #[.val (.ref gA), .val (.int (own_ix i)), .val (.int (own_ix j)), .val (.int (g i)), .val (.int (g j))] [(.int (2 : Int32)), (.ref gA)])) _
            refine XS.iloadN X1031.here hx rfl (hb hby d6_43) rfl ?_
            show Steps p.tables e below (T1031.setTop (mkF m 44 #[.val (.ref gA), .val (.int (own_ix i)), .val (.int (own_ix j)), .val (.int (g i)), .val (.int (g j))] [(.int (g i)), (.int (2 : Int32)), (.ref gA)])) _
            refine st1034 _ ?_
            show Steps p.tables e below (T1034.setTop (mkF m 45 #[.val (.ref gA), .val (.int (own_ix i)), .val (.int (own_ix j)), .val (.int (g i)), .val (.int (g j))] [])) _
            refine XS.aloadN X1034.here hx rfl (hb hby d6_45) rfl rfl ?_
            show Steps p.tables e below (T1034.setTop (mkF m 46 #[.val (.ref gA), .val (.int (own_ix i)), .val (.int (own_ix j)), .val (.int (g i)), .val (.int (g j))] [(.ref gA)])) _
            refine XS.iconst X1034.here hx rfl (hb hby d6_46) ?_
            show Steps p.tables e below (T1034.setTop (mkF m 47 #[.val (.ref gA), .val (.int (own_ix i)), .val (.int (own_ix j)), .val (.int (g i)), .val (.int (g j))] [(.int (3 : Int32)), (.ref gA)])) _
            refine X1034.iaload hx (j := (3 : Int32)) (v := (.int (g 3))) (by rw [e1034]; exact Ar1035.1) (State.isArrayOf_alike hZ.alike Ar1035.2.1) Ar1035.2.2 hin1035 hat1035 (g := (mkF m 47 #[.val (.ref gA), .val (.int (own_ix i)), .val (.int (own_ix j)), .val (.int (g i)), .val (.int (g j))] [(.int (3 : Int32)), (.ref gA)])) rfl rfl (hb hby d6_47) _ ?_
            show Steps p.tables e below (T1034.setTop (mkF m 48 #[.val (.ref gA), .val (.int (own_ix i)), .val (.int (own_ix j)), .val (.int (g i)), .val (.int (g j))] [(.int (g 3))])) _
            refine XS.iload X1034.here hx rfl (hb hby d6_48) rfl ?_
            show Steps p.tables e below (T1034.setTop (mkF m 50 #[.val (.ref gA), .val (.int (own_ix i)), .val (.int (own_ix j)), .val (.int (g i)), .val (.int (g j))] [(.int (g j)), (.int (g 3))])) _
            refine XS.icmpYes X1034.here hx rfl (pc0 := 50) (pc' := 57) rfl (hb hby d6_50) rfl (feq (hz3 : ¬ ((g 3) = (g j)))).2 (by decide) (by decide) ?_
            show Steps p.tables e below (T1034.setTop (mkF m 57 #[.val (.ref gA), .val (.int (own_ix i)), .val (.int (own_ix j)), .val (.int (g i)), .val (.int (g j))] [])) _
            exact X1034.returnOut hx Bd.returns (hb hby d6_57) hr
          · show Qown_join Z g gA kg i j h0 n0 _ T1034.heap _
            rw [e1034]
            refine ⟨rfl, N1034, K1034, ?_⟩
            rw [show own_jn g i j 0 = g i from if_pos hz0, show own_jn g i j 1 = g i from if_pos hz1, show own_jn g i j 2 = g i from if_pos hz2, show own_jn g i j 3 = g 3 from if_neg hz3]
            exact Vw1034
      · obtain ⟨cl1038, Ar1038, q1038, S1038, M1038, Hs1038, G1038⟩ := id Vw1031
        have hin1038 : ¬ ((3 : Int32) < 0 ∨ cl1038.slots.size ≤ ((3 : Int32)).toNatClampNeg) := inb_of S1038 ⟨by decide, by decide⟩
        have hat1038 : cl1038.slots[((3 : Int32)).toNatClampNeg]? = some (.int (g 3)) := Has.at Hs1038 hin1038 rfl
        by_cases hz3 : g 3 = g j
        · obtain ⟨cl1039, Ar1039, q1039, S1039, M1039, Hs1039, G1039⟩ := id Vw1031
          have hin1039 : ¬ ((3 : Int32) < 0 ∨ cl1039.slots.size ≤ ((3 : Int32)).toNatClampNeg) := inb_of S1039 ⟨by decide, by decide⟩
          obtain ⟨T1040, h1040, X1040, e1040, W1040, st1040⟩ := stI X1031 hx hZ e1031 Ar1039 (j := (3 : Int32)) hin1039 (g := (mkF m 56 #[.val (.ref gA), .val (.int (own_ix i)), .val (.int (own_ix j)), .val (.int (g i)), .val (.int (g j))] [(.int (g i)), (.int (3 : Int32)), (.ref gA)])) rfl rfl (hb hby d6_56)
          have K1040 : Keep h0 h1040 [gA] := K1031.wr W1040 (Or.inl (List.mem_of_getElem? (i := 0) rfl))
          have O1040 : Old Z n0 h1040 := O1031.wr W1040 g_gA
          have N1040 := Fr.snoc X1040 N1031 g_gA
          have Vw1040 : Arv Z h1040 gA kg .int (4 : Int32) [(.int (g i)), (.int (g i)), (.int (g 2)), (.int (g i))] (.int (0 : Int32)) := Arv.set Ar1039 q1039 S1039 M1039 Hs1039 G1039 rfl W1040 3 rfl (Nat.le_of_ble_eq_true rfl)
          obtain ⟨fs, hr, hrun, hended, hW, hsame⟩ := X1040.leave (v := none) (fun _ => rfl)
          refine ⟨_, _, pre0 _ ?_, hrun, hended, _, _, rfl, ?_, ⟨_, rfl⟩, hW, hsame.mono (by decide) (by decide)⟩
          · show Steps p.tables e below (s₁.setTop (mkF m 0 #[.val (.ref gA), .val (.int (own_ix i)), .val (.int (own_ix j)), .unset, .unset] [])) _
            refine XS.aloadN X0.here hx rfl (hb hby d6_0) rfl rfl ?_
            show Steps p.tables e below (s₁.setTop (mkF m 1 #[.val (.ref gA), .val (.int (own_ix i)), .val (.int (own_ix j)), .unset, .unset] [(.ref gA)])) _
            refine XS.iloadN X0.here hx rfl (hb hby d6_1) rfl ?_
            show Steps p.tables e below (s₁.setTop (mkF m 2 #[.val (.ref gA), .val (.int (own_ix i)), .val (.int (own_ix j)), .unset, .unset] [(.int (own_ix i)), (.ref gA)])) _
            refine X0.iaload hx (j := (own_ix i)) (v := (.int (g i))) (by rw [e0]; exact Ar1024.1) (State.isArrayOf_alike hZ.alike Ar1024.2.1) Ar1024.2.2 hin1024 hat1024 (g := (mkF m 2 #[.val (.ref gA), .val (.int (own_ix i)), .val (.int (own_ix j)), .unset, .unset] [(.int (own_ix i)), (.ref gA)])) rfl rfl (hb hby d6_2) _ ?_
            show Steps p.tables e below (s₁.setTop (mkF m 3 #[.val (.ref gA), .val (.int (own_ix i)), .val (.int (own_ix j)), .unset, .unset] [(.int (g i))])) _
            refine XS.istoreN X0.here hx rfl (hb hby d6_3) rfl (l' := #[.val (.ref gA), .val (.int (own_ix i)), .val (.int (own_ix j)), .val (.int (g i)), .unset]) rfl ?_
            show Steps p.tables e below (s₁.setTop (mkF m 4 #[.val (.ref gA), .val (.int (own_ix i)), .val (.int (own_ix j)), .val (.int (g i)), .unset] [])) _
            refine XS.aloadN X0.here hx rfl (hb hby d6_4) rfl rfl ?_
            show Steps p.tables e below (s₁.setTop (mkF m 5 #[.val (.ref gA), .val (.int (own_ix i)), .val (.int (own_ix j)), .val (.int (g i)), .unset] [(.ref gA)])) _
            refine XS.iloadN X0.here hx rfl (hb hby d6_5) rfl ?_
            show Steps p.tables e below (s₁.setTop (mkF m 6 #[.val (.ref gA), .val (.int (own_ix i)), .val (.int (own_ix j)), .val (.int (g i)), .unset] [(.int (own_ix j)), (.ref gA)])) _
            refine X0.iaload hx (j := (own_ix j)) (v := (.int (g j))) (by rw [e0]; exact Ar1025.1) (State.isArrayOf_alike hZ.alike Ar1025.2.1) Ar1025.2.2 hin1025 hat1025 (g := (mkF m 6 #[.val (.ref gA), .val (.int (own_ix i)), .val (.int (own_ix j)), .val (.int (g i)), .unset] [(.int (own_ix j)), (.ref gA)])) rfl rfl (hb hby d6_6) _ ?_
            show Steps p.tables e below (s₁.setTop (mkF m 7 #[.val (.ref gA), .val (.int (own_ix i)), .val (.int (own_ix j)), .val (.int (g i)), .unset] [(.int (g j))])) _
            refine XS.istore X0.here hx rfl (hb hby d6_7) rfl (l' := #[.val (.ref gA), .val (.int (own_ix i)), .val (.int (own_ix j)), .val (.int (g i)), .val (.int (g j))]) rfl ?_
            show Steps p.tables e below (s₁.setTop (mkF m 9 #[.val (.ref gA), .val (.int (own_ix i)), .val (.int (own_ix j)), .val (.int (g i)), .val (.int (g j))] [])) _
            refine XS.aloadN X0.here hx rfl (hb hby d6_9) rfl rfl ?_
            show Steps p.tables e below (s₁.setTop (mkF m 10 #[.val (.ref gA), .val (.int (own_ix i)), .val (.int (own_ix j)), .val (.int (g i)), .val (.int (g j))] [(.ref gA)])) _
            refine XS.iconst X0.here hx rfl (hb hby d6_10) ?_
            show Steps p.tables e below (s₁.setTop (mkF m 11 #[.val (.ref gA), .val (.int (own_ix i)), .val (.int (own_ix j)), .val (.int (g i)), .val (.int (g j))] [(.int (0 : Int32)), (.ref gA)])) _
            refine X0.iaload hx (j := (0 : Int32)) (v := (.int (g 0))) (by rw [e0]; exact Ar1026.1) (State.isArrayOf_alike hZ.alike Ar1026.2.1) Ar1026.2.2 hin1026 hat1026 (g := (mkF m 11 #[.val (.ref gA), .val (.int (own_ix i)), .val (.int (own_ix j)), .val (.int (g i)), .val (.int (g j))] [(.int (0 : Int32)), (.ref gA)])) rfl rfl (hb hby d6_11) _ ?_
            show Steps p.tables e below (s₁.setTop (mkF m 12 #[.val (.ref gA), .val (.int (own_ix i)), .val (.int (own_ix j)), .val (.int (g i)), .val (.int (g j))] [(.int (g 0))])) _
            refine XS.iload X0.here hx rfl (hb hby d6_12) rfl ?_
            show Steps p.tables e below (s₁.setTop (mkF m 14 #[.val (.ref gA), .val (.int (own_ix i)), .val (.int (own_ix j)), .val (.int (g i)), .val (.int (g j))] [(.int (g j)), (.int (g 0))])) _
            refine XS.icmpNo X0.here hx rfl (hb hby d6_14) rfl (teq (hz0 : (g 0) = (g j))).2 ?_
            show Steps p.tables e below (s₁.setTop (mkF m 17 #[.val (.ref gA), .val (.int (own_ix i)), .val (.int (own_ix j)), .val (.int (g i)), .val (.int (g j))] [])) _
            refine XS.aloadN X0.here hx rfl (hb hby d6_17) rfl rfl ?_
            show Steps p.tables e below (s₁.setTop (mkF m 18 #[.val (.ref gA), .val (.int (own_ix i)), .val (.int (own_ix j)), .val (.int (g i)), .val (.int (g j))] [(.ref gA)])) _
            refine XS.iconst X0.here hx rfl (hb hby d6_18) ?_
            show Steps p.tables e below (s₁.setTop (mkF m 19 #[.val (.ref gA), .val (.int (own_ix i)), .val (.int (own_ix j)), .val (.int (g i)), .val (.int (g j))] [(.int (0 : Int32)), (.ref gA)])) _
            refine XS.iloadN X0.here hx rfl (hb hby d6_19) rfl ?_
            show Steps p.tables e below (s₁.setTop (mkF m 20 #[.val (.ref gA), .val (.int (own_ix i)), .val (.int (own_ix j)), .val (.int (g i)), .val (.int (g j))] [(.int (g i)), (.int (0 : Int32)), (.ref gA)])) _
            refine st1028 _ ?_
            show Steps p.tables e below (T1028.setTop (mkF m 21 #[.val (.ref gA), .val (.int (own_ix i)), .val (.int (own_ix j)), .val (.int (g i)), .val (.int (g j))] [])) _
            refine XS.aloadN X1028.here hx rfl (hb hby d6_21) rfl rfl ?_
            show Steps p.tables e below (T1028.setTop (mkF m 22 #[.val (.ref gA), .val (.int (own_ix i)), .val (.int (own_ix j)), .val (.int (g i)), .val (.int (g j))] [(.ref gA)])) _
            refine XS.iconst X1028.here hx rfl (hb hby d6_22) ?_
            show Steps p.tables e below (T1028.setTop (mkF m 23 #[.val (.ref gA), .val (.int (own_ix i)), .val (.int (own_ix j)), .val (.int (g i)), .val (.int (g j))] [(.int (1 : Int32)), (.ref gA)])) _
            refine X1028.iaload hx (j := (1 : Int32)) (v := (.int (g 1))) (by rw [e1028]; exact Ar1029.1) (State.isArrayOf_alike hZ.alike Ar1029.2.1) Ar1029.2.2 hin1029 hat1029 (g := (mkF m 23 #[.val (.ref gA), .val (.int (own_ix i)), .val (.int (own_ix j)), .val (.int (g i)), .val (.int (g j))] [(.int (1 : Int32)), (.ref gA)])) rfl rfl (hb hby d6_23) _ ?_
            show Steps p.tables e below (T1028.setTop (mkF m 24 #[.val (.ref gA), .val (.int (own_ix i)), .val (.int (own_ix j)), .val (.int (g i)), .val (.int (g j))] [(.int (g 1))])) _
            refine XS.iload X1028.here hx rfl (hb hby d6_24) rfl ?_
            show Steps p.tables e below (T1028.setTop (mkF m 26 #[.val (.ref gA), .val (.int (own_ix i)), .val (.int (own_ix j)), .val (.int (g i)), .val (.int (g j))] [(.int (g j)), (.int (g 1))])) _
            refine XS.icmpNo X1028.here hx rfl (hb hby d6_26) rfl (teq (hz1 : (g 1) = (g j))).2 ?_
            show Steps p.tables e below (T1028.setTop (mkF m 29 #[.val (.ref gA), .val (.int (own_ix i)), .val (.int (own_ix j)), .val (.int (g i)), .val (.int (g j))] [])) _
            refine XS.aloadN X1028.here hx rfl (hb hby d6_29) rfl rfl ?_
            show Steps p.tables e below (T1028.setTop (mkF m 30 #[.val (.ref gA), .val (.int (own_ix i)), .val (.int (own_ix j)), .val (.int (g i)), .val (.int (g j))] [(.ref gA)])) _
            refine XS.iconst X1028.here hx rfl (hb hby d6_30) ?_
            show Steps p.tables e below (T1028.setTop (mkF m 31 #[.val (.ref gA), .val (.int (own_ix i)), .val (.int (own_ix j)), .val (.int (g i)), .val (.int (g j))] [(.int (1 : Int32)), (.ref gA)])) _
            refine XS.iloadN X1028.here hx rfl (hb hby d6_31) rfl ?_
            show Steps p.tables e below (T1028.setTop (mkF m 32 #[.val (.ref gA), .val (.int (own_ix i)), .val (.int (own_ix j)), .val (.int (g i)), .val (.int (g j))] [(.int (g i)), (.int (1 : Int32)), (.ref gA)])) _
            refine st1031 _ ?_
            show Steps p.tables e below (T1031.setTop (mkF m 33 #[.val (.ref gA), .val (.int (own_ix i)), .val (.int (own_ix j)), .val (.int (g i)), .val (.int (g j))] [])) _
            refine XS.aloadN X1031.here hx rfl (hb hby d6_33) rfl rfl ?_
            show Steps p.tables e below (T1031.setTop (mkF m 34 #[.val (.ref gA), .val (.int (own_ix i)), .val (.int (own_ix j)), .val (.int (g i)), .val (.int (g j))] [(.ref gA)])) _
            refine XS.iconst X1031.here hx rfl (hb hby d6_34) ?_
            show Steps p.tables e below (T1031.setTop (mkF m 35 #[.val (.ref gA), .val (.int (own_ix i)), .val (.int (own_ix j)), .val (.int (g i)), .val (.int (g j))] [(.int (2 : Int32)), (.ref gA)])) _
            refine X1031.iaload hx (j := (2 : Int32)) (v := (.int (g 2))) (by rw [e1031]; exact Ar1032.1) (State.isArrayOf_alike hZ.alike Ar1032.2.1) Ar1032.2.2 hin1032 hat1032 (g := (mkF m 35 #[.val (.ref gA), .val (.int (own_ix i)), .val (.int (own_ix j)), .val (.int (g i)), .val (.int (g j))] [(.int (2 : Int32)), (.ref gA)])) rfl rfl (hb hby d6_35) _ ?_
            show Steps p.tables e below (T1031.setTop (mkF m 36 #[.val (.ref gA), .val (.int (own_ix i)), .val (.int (own_ix j)), .val (.int (g i)), .val (.int (g j))] [(.int (g 2))])) _
            refine XS.iload X1031.here hx rfl (hb hby d6_36) rfl ?_
            show Steps p.tables e below (T1031.setTop (mkF m 38 #[.val (.ref gA), .val (.int (own_ix i)), .val (.int (own_ix j)), .val (.int (g i)), .val (.int (g j))] [(.int (g j)), (.int (g 2))])) _
            refine XS.icmpYes X1031.here hx rfl (pc0 := 38) (pc' := 45) rfl (hb hby d6_38) rfl (feq (hz2 : ¬ ((g 2) = (g j)))).2 (by decide) (by decide) ?_
            show Steps p.tables e below (T1031.setTop (mkF m 45 #[.val (.ref gA), .val (.int (own_ix i)), .val (.int (own_ix j)), .val (.int (g i)), .val (.int (g j))] [])) _
            refine XS.aloadN X1031.here hx rfl (hb hby d6_45) rfl rfl ?_
            show Steps p.tables e below (T1031.setTop (mkF m 46 #[.val (.ref gA), .val (.int (own_ix i)), .val (.int (own_ix j)), .val (.int (g i)), .val (.int (g j))] [(.ref gA)])) _
            refine XS.iconst X1031.here hx rfl (hb hby d6_46) ?_
            show Steps p.tables e below (T1031.setTop (mkF m 47 #[.val (.ref gA), .val (.int (own_ix i)), .val (.int (own_ix j)), .val (.int (g i)), .val (.int (g j))] [(.int (3 : Int32)), (.ref gA)])) _
            refine X1031.iaload hx (j := (3 : Int32)) (v := (.int (g 3))) (by rw [e1031]; exact Ar1038.1) (State.isArrayOf_alike hZ.alike Ar1038.2.1) Ar1038.2.2 hin1038 hat1038 (g := (mkF m 47 #[.val (.ref gA), .val (.int (own_ix i)), .val (.int (own_ix j)), .val (.int (g i)), .val (.int (g j))] [(.int (3 : Int32)), (.ref gA)])) rfl rfl (hb hby d6_47) _ ?_
            show Steps p.tables e below (T1031.setTop (mkF m 48 #[.val (.ref gA), .val (.int (own_ix i)), .val (.int (own_ix j)), .val (.int (g i)), .val (.int (g j))] [(.int (g 3))])) _
            refine XS.iload X1031.here hx rfl (hb hby d6_48) rfl ?_
            show Steps p.tables e below (T1031.setTop (mkF m 50 #[.val (.ref gA), .val (.int (own_ix i)), .val (.int (own_ix j)), .val (.int (g i)), .val (.int (g j))] [(.int (g j)), (.int (g 3))])) _
            refine XS.icmpNo X1031.here hx rfl (hb hby d6_50) rfl (teq (hz3 : (g 3) = (g j))).2 ?_
            show Steps p.tables e below (T1031.setTop (mkF m 53 #[.val (.ref gA), .val (.int (own_ix i)), .val (.int (own_ix j)), .val (.int (g i)), .val (.int (g j))] [])) _
            refine XS.aloadN X1031.here hx rfl (hb hby d6_53) rfl rfl ?_
            show Steps p.tables e below (T1031.setTop (mkF m 54 #[.val (.ref gA), .val (.int (own_ix i)), .val (.int (own_ix j)), .val (.int (g i)), .val (.int (g j))] [(.ref gA)])) _
            refine XS.iconst X1031.here hx rfl (hb hby d6_54) ?_
            show Steps p.tables e below (T1031.setTop (mkF m 55 #[.val (.ref gA), .val (.int (own_ix i)), .val (.int (own_ix j)), .val (.int (g i)), .val (.int (g j))] [(.int (3 : Int32)), (.ref gA)])) _
            refine XS.iloadN X1031.here hx rfl (hb hby d6_55) rfl ?_
            show Steps p.tables e below (T1031.setTop (mkF m 56 #[.val (.ref gA), .val (.int (own_ix i)), .val (.int (own_ix j)), .val (.int (g i)), .val (.int (g j))] [(.int (g i)), (.int (3 : Int32)), (.ref gA)])) _
            refine st1040 _ ?_
            show Steps p.tables e below (T1040.setTop (mkF m 57 #[.val (.ref gA), .val (.int (own_ix i)), .val (.int (own_ix j)), .val (.int (g i)), .val (.int (g j))] [])) _
            exact X1040.returnOut hx Bd.returns (hb hby d6_57) hr
          · show Qown_join Z g gA kg i j h0 n0 _ T1040.heap _
            rw [e1040]
            refine ⟨rfl, N1040, K1040, ?_⟩
            rw [show own_jn g i j 0 = g i from if_pos hz0, show own_jn g i j 1 = g i from if_pos hz1, show own_jn g i j 2 = g 2 from if_neg hz2, show own_jn g i j 3 = g i from if_pos hz3]
            exact Vw1040
        · obtain ⟨fs, hr, hrun, hended, hW, hsame⟩ := X1031.leave (v := none) (fun _ => rfl)
          refine ⟨_, _, pre0 _ ?_, hrun, hended, _, _, rfl, ?_, ⟨_, rfl⟩, hW, hsame.mono (by decide) (by decide)⟩
          · show Steps p.tables e below (s₁.setTop (mkF m 0 #[.val (.ref gA), .val (.int (own_ix i)), .val (.int (own_ix j)), .unset, .unset] [])) _
            refine XS.aloadN X0.here hx rfl (hb hby d6_0) rfl rfl ?_
            show Steps p.tables e below (s₁.setTop (mkF m 1 #[.val (.ref gA), .val (.int (own_ix i)), .val (.int (own_ix j)), .unset, .unset] [(.ref gA)])) _
            refine XS.iloadN X0.here hx rfl (hb hby d6_1) rfl ?_
            show Steps p.tables e below (s₁.setTop (mkF m 2 #[.val (.ref gA), .val (.int (own_ix i)), .val (.int (own_ix j)), .unset, .unset] [(.int (own_ix i)), (.ref gA)])) _
            refine X0.iaload hx (j := (own_ix i)) (v := (.int (g i))) (by rw [e0]; exact Ar1024.1) (State.isArrayOf_alike hZ.alike Ar1024.2.1) Ar1024.2.2 hin1024 hat1024 (g := (mkF m 2 #[.val (.ref gA), .val (.int (own_ix i)), .val (.int (own_ix j)), .unset, .unset] [(.int (own_ix i)), (.ref gA)])) rfl rfl (hb hby d6_2) _ ?_
            show Steps p.tables e below (s₁.setTop (mkF m 3 #[.val (.ref gA), .val (.int (own_ix i)), .val (.int (own_ix j)), .unset, .unset] [(.int (g i))])) _
            refine XS.istoreN X0.here hx rfl (hb hby d6_3) rfl (l' := #[.val (.ref gA), .val (.int (own_ix i)), .val (.int (own_ix j)), .val (.int (g i)), .unset]) rfl ?_
            show Steps p.tables e below (s₁.setTop (mkF m 4 #[.val (.ref gA), .val (.int (own_ix i)), .val (.int (own_ix j)), .val (.int (g i)), .unset] [])) _
            refine XS.aloadN X0.here hx rfl (hb hby d6_4) rfl rfl ?_
            show Steps p.tables e below (s₁.setTop (mkF m 5 #[.val (.ref gA), .val (.int (own_ix i)), .val (.int (own_ix j)), .val (.int (g i)), .unset] [(.ref gA)])) _
            refine XS.iloadN X0.here hx rfl (hb hby d6_5) rfl ?_
            show Steps p.tables e below (s₁.setTop (mkF m 6 #[.val (.ref gA), .val (.int (own_ix i)), .val (.int (own_ix j)), .val (.int (g i)), .unset] [(.int (own_ix j)), (.ref gA)])) _
            refine X0.iaload hx (j := (own_ix j)) (v := (.int (g j))) (by rw [e0]; exact Ar1025.1) (State.isArrayOf_alike hZ.alike Ar1025.2.1) Ar1025.2.2 hin1025 hat1025 (g := (mkF m 6 #[.val (.ref gA), .val (.int (own_ix i)), .val (.int (own_ix j)), .val (.int (g i)), .unset] [(.int (own_ix j)), (.ref gA)])) rfl rfl (hb hby d6_6) _ ?_
            show Steps p.tables e below (s₁.setTop (mkF m 7 #[.val (.ref gA), .val (.int (own_ix i)), .val (.int (own_ix j)), .val (.int (g i)), .unset] [(.int (g j))])) _
            refine XS.istore X0.here hx rfl (hb hby d6_7) rfl (l' := #[.val (.ref gA), .val (.int (own_ix i)), .val (.int (own_ix j)), .val (.int (g i)), .val (.int (g j))]) rfl ?_
            show Steps p.tables e below (s₁.setTop (mkF m 9 #[.val (.ref gA), .val (.int (own_ix i)), .val (.int (own_ix j)), .val (.int (g i)), .val (.int (g j))] [])) _
            refine XS.aloadN X0.here hx rfl (hb hby d6_9) rfl rfl ?_
            show Steps p.tables e below (s₁.setTop (mkF m 10 #[.val (.ref gA), .val (.int (own_ix i)), .val (.int (own_ix j)), .val (.int (g i)), .val (.int (g j))] [(.ref gA)])) _
            refine XS.iconst X0.here hx rfl (hb hby d6_10) ?_
            show Steps p.tables e below (s₁.setTop (mkF m 11 #[.val (.ref gA), .val (.int (own_ix i)), .val (.int (own_ix j)), .val (.int (g i)), .val (.int (g j))] [(.int (0 : Int32)), (.ref gA)])) _
            refine X0.iaload hx (j := (0 : Int32)) (v := (.int (g 0))) (by rw [e0]; exact Ar1026.1) (State.isArrayOf_alike hZ.alike Ar1026.2.1) Ar1026.2.2 hin1026 hat1026 (g := (mkF m 11 #[.val (.ref gA), .val (.int (own_ix i)), .val (.int (own_ix j)), .val (.int (g i)), .val (.int (g j))] [(.int (0 : Int32)), (.ref gA)])) rfl rfl (hb hby d6_11) _ ?_
            show Steps p.tables e below (s₁.setTop (mkF m 12 #[.val (.ref gA), .val (.int (own_ix i)), .val (.int (own_ix j)), .val (.int (g i)), .val (.int (g j))] [(.int (g 0))])) _
            refine XS.iload X0.here hx rfl (hb hby d6_12) rfl ?_
            show Steps p.tables e below (s₁.setTop (mkF m 14 #[.val (.ref gA), .val (.int (own_ix i)), .val (.int (own_ix j)), .val (.int (g i)), .val (.int (g j))] [(.int (g j)), (.int (g 0))])) _
            refine XS.icmpNo X0.here hx rfl (hb hby d6_14) rfl (teq (hz0 : (g 0) = (g j))).2 ?_
            show Steps p.tables e below (s₁.setTop (mkF m 17 #[.val (.ref gA), .val (.int (own_ix i)), .val (.int (own_ix j)), .val (.int (g i)), .val (.int (g j))] [])) _
            refine XS.aloadN X0.here hx rfl (hb hby d6_17) rfl rfl ?_
            show Steps p.tables e below (s₁.setTop (mkF m 18 #[.val (.ref gA), .val (.int (own_ix i)), .val (.int (own_ix j)), .val (.int (g i)), .val (.int (g j))] [(.ref gA)])) _
            refine XS.iconst X0.here hx rfl (hb hby d6_18) ?_
            show Steps p.tables e below (s₁.setTop (mkF m 19 #[.val (.ref gA), .val (.int (own_ix i)), .val (.int (own_ix j)), .val (.int (g i)), .val (.int (g j))] [(.int (0 : Int32)), (.ref gA)])) _
            refine XS.iloadN X0.here hx rfl (hb hby d6_19) rfl ?_
            show Steps p.tables e below (s₁.setTop (mkF m 20 #[.val (.ref gA), .val (.int (own_ix i)), .val (.int (own_ix j)), .val (.int (g i)), .val (.int (g j))] [(.int (g i)), (.int (0 : Int32)), (.ref gA)])) _
            refine st1028 _ ?_
            show Steps p.tables e below (T1028.setTop (mkF m 21 #[.val (.ref gA), .val (.int (own_ix i)), .val (.int (own_ix j)), .val (.int (g i)), .val (.int (g j))] [])) _
            refine XS.aloadN X1028.here hx rfl (hb hby d6_21) rfl rfl ?_
            show Steps p.tables e below (T1028.setTop (mkF m 22 #[.val (.ref gA), .val (.int (own_ix i)), .val (.int (own_ix j)), .val (.int (g i)), .val (.int (g j))] [(.ref gA)])) _
            refine XS.iconst X1028.here hx rfl (hb hby d6_22) ?_
            show Steps p.tables e below (T1028.setTop (mkF m 23 #[.val (.ref gA), .val (.int (own_ix i)), .val (.int (own_ix j)), .val (.int (g i)), .val (.int (g j))] [(.int (1 : Int32)), (.ref gA)])) _
            refine X1028.iaload hx (j := (1 : Int32)) (v := (.int (g 1))) (by rw [e1028]; exact Ar1029.1) (State.isArrayOf_alike hZ.alike Ar1029.2.1) Ar1029.2.2 hin1029 hat1029 (g := (mkF m 23 #[.val (.ref gA), .val (.int (own_ix i)), .val (.int (own_ix j)), .val (.int (g i)), .val (.int (g j))] [(.int (1 : Int32)), (.ref gA)])) rfl rfl (hb hby d6_23) _ ?_
            show Steps p.tables e below (T1028.setTop (mkF m 24 #[.val (.ref gA), .val (.int (own_ix i)), .val (.int (own_ix j)), .val (.int (g i)), .val (.int (g j))] [(.int (g 1))])) _
            refine XS.iload X1028.here hx rfl (hb hby d6_24) rfl ?_
            show Steps p.tables e below (T1028.setTop (mkF m 26 #[.val (.ref gA), .val (.int (own_ix i)), .val (.int (own_ix j)), .val (.int (g i)), .val (.int (g j))] [(.int (g j)), (.int (g 1))])) _
            refine XS.icmpNo X1028.here hx rfl (hb hby d6_26) rfl (teq (hz1 : (g 1) = (g j))).2 ?_
            show Steps p.tables e below (T1028.setTop (mkF m 29 #[.val (.ref gA), .val (.int (own_ix i)), .val (.int (own_ix j)), .val (.int (g i)), .val (.int (g j))] [])) _
            refine XS.aloadN X1028.here hx rfl (hb hby d6_29) rfl rfl ?_
            show Steps p.tables e below (T1028.setTop (mkF m 30 #[.val (.ref gA), .val (.int (own_ix i)), .val (.int (own_ix j)), .val (.int (g i)), .val (.int (g j))] [(.ref gA)])) _
            refine XS.iconst X1028.here hx rfl (hb hby d6_30) ?_
            show Steps p.tables e below (T1028.setTop (mkF m 31 #[.val (.ref gA), .val (.int (own_ix i)), .val (.int (own_ix j)), .val (.int (g i)), .val (.int (g j))] [(.int (1 : Int32)), (.ref gA)])) _
            refine XS.iloadN X1028.here hx rfl (hb hby d6_31) rfl ?_
            show Steps p.tables e below (T1028.setTop (mkF m 32 #[.val (.ref gA), .val (.int (own_ix i)), .val (.int (own_ix j)), .val (.int (g i)), .val (.int (g j))] [(.int (g i)), (.int (1 : Int32)), (.ref gA)])) _
            refine st1031 _ ?_
            show Steps p.tables e below (T1031.setTop (mkF m 33 #[.val (.ref gA), .val (.int (own_ix i)), .val (.int (own_ix j)), .val (.int (g i)), .val (.int (g j))] [])) _
            refine XS.aloadN X1031.here hx rfl (hb hby d6_33) rfl rfl ?_
            show Steps p.tables e below (T1031.setTop (mkF m 34 #[.val (.ref gA), .val (.int (own_ix i)), .val (.int (own_ix j)), .val (.int (g i)), .val (.int (g j))] [(.ref gA)])) _
            refine XS.iconst X1031.here hx rfl (hb hby d6_34) ?_
            show Steps p.tables e below (T1031.setTop (mkF m 35 #[.val (.ref gA), .val (.int (own_ix i)), .val (.int (own_ix j)), .val (.int (g i)), .val (.int (g j))] [(.int (2 : Int32)), (.ref gA)])) _
            refine X1031.iaload hx (j := (2 : Int32)) (v := (.int (g 2))) (by rw [e1031]; exact Ar1032.1) (State.isArrayOf_alike hZ.alike Ar1032.2.1) Ar1032.2.2 hin1032 hat1032 (g := (mkF m 35 #[.val (.ref gA), .val (.int (own_ix i)), .val (.int (own_ix j)), .val (.int (g i)), .val (.int (g j))] [(.int (2 : Int32)), (.ref gA)])) rfl rfl (hb hby d6_35) _ ?_
            show Steps p.tables e below (T1031.setTop (mkF m 36 #[.val (.ref gA), .val (.int (own_ix i)), .val (.int (own_ix j)), .val (.int (g i)), .val (.int (g j))] [(.int (g 2))])) _
            refine XS.iload X1031.here hx rfl (hb hby d6_36) rfl ?_
            show Steps p.tables e below (T1031.setTop (mkF m 38 #[.val (.ref gA), .val (.int (own_ix i)), .val (.int (own_ix j)), .val (.int (g i)), .val (.int (g j))] [(.int (g j)), (.int (g 2))])) _
            refine XS.icmpYes X1031.here hx rfl (pc0 := 38) (pc' := 45) rfl (hb hby d6_38) rfl (feq (hz2 : ¬ ((g 2) = (g j)))).2 (by decide) (by decide) ?_
            show Steps p.tables e below (T1031.setTop (mkF m 45 #[.val (.ref gA), .val (.int (own_ix i)), .val (.int (own_ix j)), .val (.int (g i)), .val (.int (g j))] [])) _
            refine XS.aloadN X1031.here hx rfl (hb hby d6_45) rfl rfl ?_
            show Steps p.tables e below (T1031.setTop (mkF m 46 #[.val (.ref gA), .val (.int (own_ix i)), .val (.int (own_ix j)), .val (.int (g i)), .val (.int (g j))] [(.ref gA)])) _
            refine XS.iconst X1031.here hx rfl (hb hby d6_46) ?_
            show Steps p.tables e below (T1031.setTop (mkF m 47 #[.val (.ref gA), .val (.int (own_ix i)), .val (.int (own_ix j)), .val (.int (g i)), .val (.int (g j))] [(.int (3 : Int32)), (.ref gA)])) _
            refine X1031.iaload hx (j := (3 : Int32)) (v := (.int (g 3))) (by rw [e1031]; exact Ar1038.1) (State.isArrayOf_alike hZ.alike Ar1038.2.1) Ar1038.2.2 hin1038 hat1038 (g := (mkF m 47 #[.val (.ref gA), .val (.int (own_ix i)), .val (.int (own_ix j)), .val (.int (g i)), .val (.int (g j))] [(.int (3 : Int32)), (.ref gA)])) rfl rfl (hb hby d6_47) _ ?_
            show Steps p.tables e below (T1031.setTop (mkF m 48 #[.val (.ref gA), .val (.int (own_ix i)), .val (.int (own_ix j)), .val (.int (g i)), .val (.int (g j))] [(.int (g 3))])) _
            refine XS.iload X1031.here hx rfl (hb hby d6_48) rfl ?_
            show Steps p.tables e below (T1031.setTop (mkF m 50 #[.val (.ref gA), .val (.int (own_ix i)), .val (.int (own_ix j)), .val (.int (g i)), .val (.int (g j))] [(.int (g j)), (.int (g 3))])) _
            refine XS.icmpYes X1031.here hx rfl (pc0 := 50) (pc' := 57) rfl (hb hby d6_50) rfl (feq (hz3 : ¬ ((g 3) = (g j)))).2 (by decide) (by decide) ?_
            show Steps p.tables e below (T1031.setTop (mkF m 57 #[.val (.ref gA), .val (.int (own_ix i)), .val (.int (own_ix j)), .val (.int (g i)), .val (.int (g j))] [])) _
            exact X1031.returnOut hx Bd.returns (hb hby d6_57) hr
          · show Qown_join Z g gA kg i j h0 n0 _ T1031.heap _
            rw [e1031]
            refine ⟨rfl, N1031, K1031, ?_⟩
            rw [show own_jn g i j 0 = g i from if_pos hz0, show own_jn g i j 1 = g i from if_pos hz1, show own_jn g i j 2 = g 2 from if_neg hz2, show own_jn g i j 3 = g 3 from if_neg hz3]
            exact Vw1031
    · obtain ⟨cl1041, Ar1041, q1041, S1041, M1041, Hs1041, G1041⟩ := id Vw1028
      have hin1041 : ¬ ((2 : Int32) < 0 ∨ cl1041.slots.size ≤ ((2 : Int32)).toNatClampNeg) := inb_of S1041 ⟨by decide, by decide⟩
      have hat1041 : cl1041.slots[((2 : Int32)).toNatClampNeg]? = some (.int (g 2)) := Has.at Hs1041 hin1041 rfl
      by_cases hz2 : g 2 = g j
      · obtain ⟨cl1042, Ar1042, q1042, S1042, M1042, Hs1042, G1042⟩ := id Vw1028
        have hin1042 : ¬ ((2 : Int32) < 0 ∨ cl1042.slots.size ≤ ((2 : Int32)).toNatClampNeg) := inb_of S1042 ⟨by decide, by decide⟩
        obtain ⟨T1043, h1043, X1043, e1043, W1043, st1043⟩ := stI X1028 hx hZ e1028 Ar1042 (j := (2 : Int32)) hin1042 (g := (mkF m 44 #[.val (.ref gA), .val (.int (own_ix i)), .val (.int (own_ix j)), .val (.int (g i)), .val (.int (g j))] [(.int (g i)), (.int (2 : Int32)), (.ref gA)])) rfl rfl (hb hby d6_44)
        have K1043 : Keep h0 h1043 [gA] := K1028.wr W1043 (Or.inl (List.mem_of_getElem? (i := 0) rfl))
        have O1043 : Old Z n0 h1043 := O1028.wr W1043 g_gA
        have N1043 := Fr.snoc X1043 N1028 g_gA
        have Vw1043 : Arv Z h1043 gA kg .int (4 : Int32) [(.int (g i)), (.int (g 1)), (.int (g i)), (.int (g 3))] (.int (0 : Int32)) := Arv.set Ar1042 q1042 S1042 M1042 Hs1042 G1042 rfl W1043 2 rfl (Nat.le_of_ble_eq_true rfl)
        obtain ⟨cl1044, Ar1044, q1044, S1044, M1044, Hs1044, G1044⟩ := id Vw1043
        have hin1044 : ¬ ((3 : Int32) < 0 ∨ cl1044.slots.size ≤ ((3 : Int32)).toNatClampNeg) := inb_of S1044 ⟨by decide, by decide⟩
        have hat1044 : cl1044.slots[((3 : Int32)).toNatClampNeg]? = some (.int (g 3)) := Has.at Hs1044 hin1044 rfl
        by_cases hz3 : g 3 = g j
        · obtain ⟨cl1045, Ar1045, q1045, S1045, M1045, Hs1045, G1045⟩ := id Vw1043
          have hin1045 : ¬ ((3 : Int32) < 0 ∨ cl1045.slots.size ≤ ((3 : Int32)).toNatClampNeg) := inb_of S1045 ⟨by decide, by decide⟩
          obtain ⟨T1046, h1046, X1046, e1046, W1046, st1046⟩ := stI X1043 hx hZ e1043 Ar1045 (j := (3 : Int32)) hin1045 (g := (mkF m 56 #[.val (.ref gA), .val (.int (own_ix i)), .val (.int (own_ix j)), .val (.int (g i)), .val (.int (g j))] [(.int (g i)), (.int (3 : Int32)), (.ref gA)])) rfl rfl (hb hby d6_56)
          have K1046 : Keep h0 h1046 [gA] := K1043.wr W1046 (Or.inl (List.mem_of_getElem? (i := 0) rfl))
          have O1046 : Old Z n0 h1046 := O1043.wr W1046 g_gA
          have N1046 := Fr.snoc X1046 N1043 g_gA
          have Vw1046 : Arv Z h1046 gA kg .int (4 : Int32) [(.int (g i)), (.int (g 1)), (.int (g i)), (.int (g i))] (.int (0 : Int32)) := Arv.set Ar1045 q1045 S1045 M1045 Hs1045 G1045 rfl W1046 3 rfl (Nat.le_of_ble_eq_true rfl)
          obtain ⟨fs, hr, hrun, hended, hW, hsame⟩ := X1046.leave (v := none) (fun _ => rfl)
          refine ⟨_, _, pre0 _ ?_, hrun, hended, _, _, rfl, ?_, ⟨_, rfl⟩, hW, hsame.mono (by decide) (by decide)⟩
          · show Steps p.tables e below (s₁.setTop (mkF m 0 #[.val (.ref gA), .val (.int (own_ix i)), .val (.int (own_ix j)), .unset, .unset] [])) _
            refine XS.aloadN X0.here hx rfl (hb hby d6_0) rfl rfl ?_
            show Steps p.tables e below (s₁.setTop (mkF m 1 #[.val (.ref gA), .val (.int (own_ix i)), .val (.int (own_ix j)), .unset, .unset] [(.ref gA)])) _
            refine XS.iloadN X0.here hx rfl (hb hby d6_1) rfl ?_
            show Steps p.tables e below (s₁.setTop (mkF m 2 #[.val (.ref gA), .val (.int (own_ix i)), .val (.int (own_ix j)), .unset, .unset] [(.int (own_ix i)), (.ref gA)])) _
            refine X0.iaload hx (j := (own_ix i)) (v := (.int (g i))) (by rw [e0]; exact Ar1024.1) (State.isArrayOf_alike hZ.alike Ar1024.2.1) Ar1024.2.2 hin1024 hat1024 (g := (mkF m 2 #[.val (.ref gA), .val (.int (own_ix i)), .val (.int (own_ix j)), .unset, .unset] [(.int (own_ix i)), (.ref gA)])) rfl rfl (hb hby d6_2) _ ?_
            show Steps p.tables e below (s₁.setTop (mkF m 3 #[.val (.ref gA), .val (.int (own_ix i)), .val (.int (own_ix j)), .unset, .unset] [(.int (g i))])) _
            refine XS.istoreN X0.here hx rfl (hb hby d6_3) rfl (l' := #[.val (.ref gA), .val (.int (own_ix i)), .val (.int (own_ix j)), .val (.int (g i)), .unset]) rfl ?_
            show Steps p.tables e below (s₁.setTop (mkF m 4 #[.val (.ref gA), .val (.int (own_ix i)), .val (.int (own_ix j)), .val (.int (g i)), .unset] [])) _
            refine XS.aloadN X0.here hx rfl (hb hby d6_4) rfl rfl ?_
            show Steps p.tables e below (s₁.setTop (mkF m 5 #[.val (.ref gA), .val (.int (own_ix i)), .val (.int (own_ix j)), .val (.int (g i)), .unset] [(.ref gA)])) _
            refine XS.iloadN X0.here hx rfl (hb hby d6_5) rfl ?_
            show Steps p.tables e below (s₁.setTop (mkF m 6 #[.val (.ref gA), .val (.int (own_ix i)), .val (.int (own_ix j)), .val (.int (g i)), .unset] [(.int (own_ix j)), (.ref gA)])) _
            refine X0.iaload hx (j := (own_ix j)) (v := (.int (g j))) (by rw [e0]; exact Ar1025.1) (State.isArrayOf_alike hZ.alike Ar1025.2.1) Ar1025.2.2 hin1025 hat1025 (g := (mkF m 6 #[.val (.ref gA), .val (.int (own_ix i)), .val (.int (own_ix j)), .val (.int (g i)), .unset] [(.int (own_ix j)), (.ref gA)])) rfl rfl (hb hby d6_6) _ ?_
            show Steps p.tables e below (s₁.setTop (mkF m 7 #[.val (.ref gA), .val (.int (own_ix i)), .val (.int (own_ix j)), .val (.int (g i)), .unset] [(.int (g j))])) _
            refine XS.istore X0.here hx rfl (hb hby d6_7) rfl (l' := #[.val (.ref gA), .val (.int (own_ix i)), .val (.int (own_ix j)), .val (.int (g i)), .val (.int (g j))]) rfl ?_
            show Steps p.tables e below (s₁.setTop (mkF m 9 #[.val (.ref gA), .val (.int (own_ix i)), .val (.int (own_ix j)), .val (.int (g i)), .val (.int (g j))] [])) _
            refine XS.aloadN X0.here hx rfl (hb hby d6_9) rfl rfl ?_
            show Steps p.tables e below (s₁.setTop (mkF m 10 #[.val (.ref gA), .val (.int (own_ix i)), .val (.int (own_ix j)), .val (.int (g i)), .val (.int (g j))] [(.ref gA)])) _
            refine XS.iconst X0.here hx rfl (hb hby d6_10) ?_
            show Steps p.tables e below (s₁.setTop (mkF m 11 #[.val (.ref gA), .val (.int (own_ix i)), .val (.int (own_ix j)), .val (.int (g i)), .val (.int (g j))] [(.int (0 : Int32)), (.ref gA)])) _
            refine X0.iaload hx (j := (0 : Int32)) (v := (.int (g 0))) (by rw [e0]; exact Ar1026.1) (State.isArrayOf_alike hZ.alike Ar1026.2.1) Ar1026.2.2 hin1026 hat1026 (g := (mkF m 11 #[.val (.ref gA), .val (.int (own_ix i)), .val (.int (own_ix j)), .val (.int (g i)), .val (.int (g j))] [(.int (0 : Int32)), (.ref gA)])) rfl rfl (hb hby d6_11) _ ?_
            show Steps p.tables e below (s₁.setTop (mkF m 12 #[.val (.ref gA), .val (.int (own_ix i)), .val (.int (own_ix j)), .val (.int (g i)), .val (.int (g j))] [(.int (g 0))])) _
            refine XS.iload X0.here hx rfl (hb hby d6_12) rfl ?_
            show Steps p.tables e below (s₁.setTop (mkF m 14 #[.val (.ref gA), .val (.int (own_ix i)), .val (.int (own_ix j)), .val (.int (g i)), .val (.int (g j))] [(.int (g j)), (.int (g 0))])) _
            refine XS.icmpNo X0.here hx rfl (hb hby d6_14) rfl (teq (hz0 : (g 0) = (g j))).2 ?_
            show Steps p.tables e below (s₁.setTop (mkF m 17 #[.val (.ref gA), .val (.int (own_ix i)), .val (.int (own_ix j)), .val (.int (g i)), .val (.int (g j))] [])) _
            refine XS.aloadN X0.here hx rfl (hb hby d6_17) rfl rfl ?_
            show Steps p.tables e below (s₁.setTop (mkF m 18 #[.val (.ref gA), .val (.int (own_ix i)), .val (.int (own_ix j)), .val (.int (g i)), .val (.int (g j))] [(.ref gA)])) _
            refine XS.iconst X0.here hx rfl (hb hby d6_18) ?_
            show Steps p.tables e below (s₁.setTop (mkF m 19 #[.val (.ref gA), .val (.int (own_ix i)), .val (.int (own_ix j)), .val (.int (g i)), .val (.int (g j))] [(.int (0 : Int32)), (.ref gA)])) _
            refine XS.iloadN X0.here hx rfl (hb hby d6_19) rfl ?_
            show Steps p.tables e below (s₁.setTop (mkF m 20 #[.val (.ref gA), .val (.int (own_ix i)), .val (.int (own_ix j)), .val (.int (g i)), .val (.int (g j))] [(.int (g i)), (.int (0 : Int32)), (.ref gA)])) _
            refine st1028 _ ?_
            show Steps p.tables e below (T1028.setTop (mkF m 21 #[.val (.ref gA), .val (.int (own_ix i)), .val (.int (own_ix j)), .val (.int (g i)), .val (.int (g j))] [])) _
            refine XS.aloadN X1028.here hx rfl (hb hby d6_21) rfl rfl ?_
            show Steps p.tables e below (T1028.setTop (mkF m 22 #[.val (.ref gA), .val (.int (own_ix i)), .val (.int (own_ix j)), .val (.int (g i)), .val (.int (g j))] [(.ref gA)])) _
            refine XS.iconst X1028.here hx rfl (hb hby d6_22) ?_
            show Steps p.tables e below (T1028.setTop (mkF m 23 #[.val (.ref gA), .val (.int (own_ix i)), .val (.int (own_ix j)), .val (.int (g i)), .val (.int (g j))] [(.int (1 : Int32)), (.ref gA)])) _
            refine X1028.iaload hx (j := (1 : Int32)) (v := (.int (g 1))) (by rw [e1028]; exact Ar1029.1) (State.isArrayOf_alike hZ.alike Ar1029.2.1) Ar1029.2.2 hin1029 hat1029 (g := (mkF m 23 #[.val (.ref gA), .val (.int (own_ix i)), .val (.int (own_ix j)), .val (.int (g i)), .val (.int (g j))] [(.int (1 : Int32)), (.ref gA)])) rfl rfl (hb hby d6_23) _ ?_
            show Steps p.tables e below (T1028.setTop (mkF m 24 #[.val (.ref gA), .val (.int (own_ix i)), .val (.int (own_ix j)), .val (.int (g i)), .val (.int (g j))] [(.int (g 1))])) _
            refine XS.iload X1028.here hx rfl (hb hby d6_24) rfl ?_
            show Steps p.tables e below (T1028.setTop (mkF m 26 #[.val (.ref gA), .val (.int (own_ix i)), .val (.int (own_ix j)), .val (.int (g i)), .val (.int (g j))] [(.int (g j)), (.int (g 1))])) _
            refine XS.icmpYes X1028.here hx rfl (pc0 := 26) (pc' := 33) rfl (hb hby d6_26) rfl (feq (hz1 : ¬ ((g 1) = (g j)))).2 (by decide) (by decide) ?_
            show Steps p.tables e below (T1028.setTop (mkF m 33 #[.val (.ref gA), .val (.int (own_ix i)), .val (.int (own_ix j)), .val (.int (g i)), .val (.int (g j))] [])) _
            refine XS.aloadN X1028.here hx rfl (hb hby d6_33) rfl rfl ?_
            show Steps p.tables e below (T1028.setTop (mkF m 34 #[.val (.ref gA), .val (.int (own_ix i)), .val (.int (own_ix j)), .val (.int (g i)), .val (.int (g j))] [(.ref gA)])) _
            refine XS.iconst X1028.here hx rfl (hb hby d6_34) ?_
            show Steps p.tables e below (T1028.setTop (mkF m 35 #[.val (.ref gA), .val (.int (own_ix i)), .val (.int (own_ix j)), .val (.int (g i)), .val (.int (g j))] [(.int (2 : Int32)), (.ref gA)])) _
            refine X1028.iaload hx (j := (2 : Int32)) (v := (.int (g 2))) (by rw [e1028]; exact Ar1041.1) (State.isArrayOf_alike hZ.alike Ar1041.2.1) Ar1041.2.2 hin1041 hat1041 (g := (mkF m 35 #[.val (.ref gA), .val (.int (own_ix i)), .val (.int (own_ix j)), .val (.int (g i)), .val (.int (g j))] [(.int (2 : Int32)), (.ref gA)])) rfl rfl (hb hby d6_35) _ ?_
            show Steps p.tables e below (T1028.setTop (mkF m 36 #[.val (.ref gA), .val (.int (own_ix i)), .val (.int (own_ix j)), .val (.int (g i)), .val (.int (g j))] [(.int (g 2))])) _
            refine XS.iload X1028.here hx rfl (hb hby d6_36) rfl ?_
            show Steps p.tables e below (T1028.setTop (mkF m 38 #[.val (.ref gA), .val (.int (own_ix i)), .val (.int (own_ix j)), .val (.int (g i)), .val (.int (g j))] [(.int (g j)), (.int (g 2))])) _
            refine XS.icmpNo X1028.here hx rfl (hb hby d6_38) rfl (teq (hz2 : (g 2) = (g j))).2 ?_
            show Steps p.tables e below (T1028.setTop (mkF m 41 #[.val (.ref gA), .val (.int (own_ix i)), .val (.int (own_ix j)), .val (.int (g i)), .val (.int (g j))] [])) _
            refine XS.aloadN X1028.here hx rfl (hb hby d6_41) rfl rfl ?_
            show Steps p.tables e below (T1028.setTop (mkF m 42 #[.val (.ref gA), .val (.int (own_ix i)), .val (.int (own_ix j)), .val (.int (g i)), .val (.int (g j))] [(.ref gA)])) _
            refine XS.iconst X1028.here hx rfl (hb hby d6_42) ?_
            show Steps p.tables e below (T1028.setTop (mkF m 43 #[.val (.ref gA), .val (.int (own_ix i)), .val (.int (own_ix j)), .val (.int (g i)), .val (.int (g j))] [(.int (2 : Int32)), (.ref gA)])) _
            refine XS.iloadN X1028.here hx rfl (hb hby d6_43) rfl ?_
            show Steps p.tables e below (T1028.setTop (mkF m 44 #[.val (.ref gA), .val (.int (own_ix i)), .val (.int (own_ix j)), .val (.int (g i)), .val (.int (g j))] [(.int (g i)), (.int (2 : Int32)), (.ref gA)])) _
            refine st1043 _ ?_
            show Steps p.tables e below (T1043.setTop (mkF m 45 #[.val (.ref gA), .val (.int (own_ix i)), .val (.int (own_ix j)), .val (.int (g i)), .val (.int (g j))] [])) _
            refine XS.aloadN X1043.here hx rfl (hb hby d6_45) rfl rfl ?_
            show Steps p.tables e below (T1043.setTop (mkF m 46 #[.val (.ref gA), .val (.int (own_ix i)), .val (.int (own_ix j)), .val (.int (g i)), .val (.int (g j))] [(.ref gA)])) _
            refine XS.iconst X1043.here hx rfl (hb hby d6_46) ?_
            show Steps p.tables e below (T1043.setTop (mkF m 47 #[.val (.ref gA), .val (.int (own_ix i)), .val (.int (own_ix j)), .val (.int (g i)), .val (.int (g j))] [(.int (3 : Int32)), (.ref gA)])) _
            refine X1043.iaload hx (j := (3 : Int32)) (v := (.int (g 3))) (by rw [e1043]; exact Ar1044.1) (State.isArrayOf_alike hZ.alike Ar1044.2.1) Ar1044.2.2 hin1044 hat1044 (g := (mkF m 47 #[.val (.ref gA), .val (.int (own_ix i)), .val (.int (own_ix j)), .val (.int (g i)), .val (.int (g j))] [(.int (3 : Int32)), (.ref gA)])) rfl rfl (hb hby d6_47) _ ?_
            show Steps p.tables e below (T1043.setTop (mkF m 48 #[.val (.ref gA), .val (.int (own_ix i)), .val (.int (own_ix j)), .val (.int (g i)), .val (.int (g j))] [(.int (g 3))])) _
            refine XS.iload X1043.here hx rfl (hb hby d6_48) rfl ?_
            show Steps p.tables e below (T1043.setTop (mkF m 50 #[.val (.ref gA), .val (.int (own_ix i)), .val (.int (own_ix j)), .val (.int (g i)), .val (.int (g j))] [(.int (g j)), (.int (g 3))])) _
            refine XS.icmpNo X1043.here hx rfl (hb hby d6_50) rfl (teq (hz3 : (g 3) = (g j))).2 ?_
            show Steps p.tables e below (T1043.setTop (mkF m 53 #[.val (.ref gA), .val (.int (own_ix i)), .val (.int (own_ix j)), .val (.int (g i)), .val (.int (g j))] [])) _
            refine XS.aloadN X1043.here hx rfl (hb hby d6_53) rfl rfl ?_
            show Steps p.tables e below (T1043.setTop (mkF m 54 #[.val (.ref gA), .val (.int (own_ix i)), .val (.int (own_ix j)), .val (.int (g i)), .val (.int (g j))] [(.ref gA)])) _
            refine XS.iconst X1043.here hx rfl (hb hby d6_54) ?_
            show Steps p.tables e below (T1043.setTop (mkF m 55 #[.val (.ref gA), .val (.int (own_ix i)), .val (.int (own_ix j)), .val (.int (g i)), .val (.int (g j))] [(.int (3 : Int32)), (.ref gA)])) _
            refine XS.iloadN X1043.here hx rfl (hb hby d6_55) rfl ?_
            show Steps p.tables e below (T1043.setTop (mkF m 56 #[.val (.ref gA), .val (.int (own_ix i)), .val (.int (own_ix j)), .val (.int (g i)), .val (.int (g j))] [(.int (g i)), (.int (3 : Int32)), (.ref gA)])) _
            refine st1046 _ ?_
            show Steps p.tables e below (T1046.setTop (mkF m 57 #[.val (.ref gA), .val (.int (own_ix i)), .val (.int (own_ix j)), .val (.int (g i)), .val (.int (g j))] [])) _
            exact X1046.returnOut hx Bd.returns (hb hby d6_57) hr
          · show Qown_join Z g gA kg i j h0 n0 _ T1046.heap _
            rw [e1046]
            refine ⟨rfl, N1046, K1046, ?_⟩
            rw [show own_jn g i j 0 = g i from if_pos hz0, show own_jn g i j 1 = g 1 from if_neg hz1, show own_jn g i j 2 = g i from if_pos hz2, show own_jn g i j 3 = g i from if_pos hz3]
            exact Vw1046
        · obtain ⟨fs, hr, hrun, hended, hW, hsame⟩ := X1043.leave (v := none) (fun _ => rfl)
          refine ⟨_, _, pre0 _ ?_, hrun, hended, _, _, rfl, ?_, ⟨_, rfl⟩, hW, hsame.mono (by decide) (by decide)⟩
          · show Steps p.tables e below (s₁.setTop (mkF m 0 #[.val (.ref gA), .val (.int (own_ix i)), .val (.int (own_ix j)), .unset, .unset] [])) _
            refine XS.aloadN X0.here hx rfl (hb hby d6_0) rfl rfl ?_
            show Steps p.tables e below (s₁.setTop (mkF m 1 #[.val (.ref gA), .val (.int (own_ix i)), .val (.int (own_ix j)), .unset, .unset] [(.ref gA)])) _
            refine XS.iloadN X0.here hx rfl (hb hby d6_1) rfl ?_
            show Steps p.tables e below (s₁.setTop (mkF m 2 #[.val (.ref gA), .val (.int (own_ix i)), .val (.int (own_ix j)), .unset, .unset] [(.int (own_ix i)), (.ref gA)])) _
            refine X0.iaload hx (j := (own_ix i)) (v := (.int (g i))) (by rw [e0]; exact Ar1024.1) (State.isArrayOf_alike hZ.alike Ar1024.2.1) Ar1024.2.2 hin1024 hat1024 (g := (mkF m 2 #[.val (.ref gA), .val (.int (own_ix i)), .val (.int (own_ix j)), .unset, .unset] [(.int (own_ix i)), (.ref gA)])) rfl rfl (hb hby d6_2) _ ?_
            show Steps p.tables e below (s₁.setTop (mkF m 3 #[.val (.ref gA), .val (.int (own_ix i)), .val (.int (own_ix j)), .unset, .unset] [(.int (g i))])) _
            refine XS.istoreN X0.here hx rfl (hb hby d6_3) rfl (l' := #[.val (.ref gA), .val (.int (own_ix i)), .val (.int (own_ix j)), .val (.int (g i)), .unset]) rfl ?_
            show Steps p.tables e below (s₁.setTop (mkF m 4 #[.val (.ref gA), .val (.int (own_ix i)), .val (.int (own_ix j)), .val (.int (g i)), .unset] [])) _
            refine XS.aloadN X0.here hx rfl (hb hby d6_4) rfl rfl ?_
            show Steps p.tables e below (s₁.setTop (mkF m 5 #[.val (.ref gA), .val (.int (own_ix i)), .val (.int (own_ix j)), .val (.int (g i)), .unset] [(.ref gA)])) _
            refine XS.iloadN X0.here hx rfl (hb hby d6_5) rfl ?_
            show Steps p.tables e below (s₁.setTop (mkF m 6 #[.val (.ref gA), .val (.int (own_ix i)), .val (.int (own_ix j)), .val (.int (g i)), .unset] [(.int (own_ix j)), (.ref gA)])) _
            refine X0.iaload hx (j := (own_ix j)) (v := (.int (g j))) (by rw [e0]; exact Ar1025.1) (State.isArrayOf_alike hZ.alike Ar1025.2.1) Ar1025.2.2 hin1025 hat1025 (g := (mkF m 6 #[.val (.ref gA), .val (.int (own_ix i)), .val (.int (own_ix j)), .val (.int (g i)), .unset] [(.int (own_ix j)), (.ref gA)])) rfl rfl (hb hby d6_6) _ ?_
            show Steps p.tables e below (s₁.setTop (mkF m 7 #[.val (.ref gA), .val (.int (own_ix i)), .val (.int (own_ix j)), .val (.int (g i)), .unset] [(.int (g j))])) _
            refine XS.istore X0.here hx rfl (hb hby d6_7) rfl (l' := #[.val (.ref gA), .val (.int (own_ix i)), .val (.int (own_ix j)), .val (.int (g i)), .val (.int (g j))]) rfl ?_
            show Steps p.tables e below (s₁.setTop (mkF m 9 #[.val (.ref gA), .val (.int (own_ix i)), .val (.int (own_ix j)), .val (.int (g i)), .val (.int (g j))] [])) _
            refine XS.aloadN X0.here hx rfl (hb hby d6_9) rfl rfl ?_
            show Steps p.tables e below (s₁.setTop (mkF m 10 #[.val (.ref gA), .val (.int (own_ix i)), .val (.int (own_ix j)), .val (.int (g i)), .val (.int (g j))] [(.ref gA)])) _
            refine XS.iconst X0.here hx rfl (hb hby d6_10) ?_
            show Steps p.tables e below (s₁.setTop (mkF m 11 #[.val (.ref gA), .val (.int (own_ix i)), .val (.int (own_ix j)), .val (.int (g i)), .val (.int (g j))] [(.int (0 : Int32)), (.ref gA)])) _
            refine X0.iaload hx (j := (0 : Int32)) (v := (.int (g 0))) (by rw [e0]; exact Ar1026.1) (State.isArrayOf_alike hZ.alike Ar1026.2.1) Ar1026.2.2 hin1026 hat1026 (g := (mkF m 11 #[.val (.ref gA), .val (.int (own_ix i)), .val (.int (own_ix j)), .val (.int (g i)), .val (.int (g j))] [(.int (0 : Int32)), (.ref gA)])) rfl rfl (hb hby d6_11) _ ?_
            show Steps p.tables e below (s₁.setTop (mkF m 12 #[.val (.ref gA), .val (.int (own_ix i)), .val (.int (own_ix j)), .val (.int (g i)), .val (.int (g j))] [(.int (g 0))])) _
            refine XS.iload X0.here hx rfl (hb hby d6_12) rfl ?_
            show Steps p.tables e below (s₁.setTop (mkF m 14 #[.val (.ref gA), .val (.int (own_ix i)), .val (.int (own_ix j)), .val (.int (g i)), .val (.int (g j))] [(.int (g j)), (.int (g 0))])) _
            refine XS.icmpNo X0.here hx rfl (hb hby d6_14) rfl (teq (hz0 : (g 0) = (g j))).2 ?_
            show Steps p.tables e below (s₁.setTop (mkF m 17 #[.val (.ref gA), .val (.int (own_ix i)), .val (.int (own_ix j)), .val (.int (g i)), .val (.int (g j))] [])) _
            refine XS.aloadN X0.here hx rfl (hb hby d6_17) rfl rfl ?_
            show Steps p.tables e below (s₁.setTop (mkF m 18 #[.val (.ref gA), .val (.int (own_ix i)), .val (.int (own_ix j)), .val (.int (g i)), .val (.int (g j))] [(.ref gA)])) _
            refine XS.iconst X0.here hx rfl (hb hby d6_18) ?_
            show Steps p.tables e below (s₁.setTop (mkF m 19 #[.val (.ref gA), .val (.int (own_ix i)), .val (.int (own_ix j)), .val (.int (g i)), .val (.int (g j))] [(.int (0 : Int32)), (.ref gA)])) _
            refine XS.iloadN X0.here hx rfl (hb hby d6_19) rfl ?_
            show Steps p.tables e below (s₁.setTop (mkF m 20 #[.val (.ref gA), .val (.int (own_ix i)), .val (.int (own_ix j)), .val (.int (g i)), .val (.int (g j))] [(.int (g i)), (.int (0 : Int32)), (.ref gA)])) _
            refine st1028 _ ?_
            show Steps p.tables e below (T1028.setTop (mkF m 21 #[.val (.ref gA), .val (.int (own_ix i)), .val (.int (own_ix j)), .val (.int (g i)), .val (.int (g j))] [])) _
            refine XS.aloadN X1028.here hx rfl (hb hby d6_21) rfl rfl ?_
            show Steps p.tables e below (T1028.setTop (mkF m 22 #[.val (.ref gA), .val (.int (own_ix i)), .val (.int (own_ix j)), .val (.int (g i)), .val (.int (g j))] [(.ref gA)])) _
            refine XS.iconst X1028.here hx rfl (hb hby d6_22) ?_
            show Steps p.tables e below (T1028.setTop (mkF m 23 #[.val (.ref gA), .val (.int (own_ix i)), .val (.int (own_ix j)), .val (.int (g i)), .val (.int (g j))] [(.int (1 : Int32)), (.ref gA)])) _
            refine X1028.iaload hx (j := (1 : Int32)) (v := (.int (g 1))) (by rw [e1028]; exact Ar1029.1) (State.isArrayOf_alike hZ.alike Ar1029.2.1) Ar1029.2.2 hin1029 hat1029 (g := (mkF m 23 #[.val (.ref gA), .val (.int (own_ix i)), .val (.int (own_ix j)), .val (.int (g i)), .val (.int (g j))] [(.int (1 : Int32)), (.ref gA)])) rfl rfl (hb hby d6_23) _ ?_
            show Steps p.tables e below (T1028.setTop (mkF m 24 #[.val (.ref gA), .val (.int (own_ix i)), .val (.int (own_ix j)), .val (.int (g i)), .val (.int (g j))] [(.int (g 1))])) _
            refine XS.iload X1028.here hx rfl (hb hby d6_24) rfl ?_
            show Steps p.tables e below (T1028.setTop (mkF m 26 #[.val (.ref gA), .val (.int (own_ix i)), .val (.int (own_ix j)), .val (.int (g i)), .val (.int (g j))] [(.int (g j)), (.int (g 1))])) _
            refine XS.icmpYes X1028.here hx rfl (pc0 := 26) (pc' := 33) rfl (hb hby d6_26) rfl (feq (hz1 : ¬ ((g 1) = (g j)))).2 (by decide) (by decide) ?_
            show Steps p.tables e below (T1028.setTop (mkF m 33 #[.val (.ref gA), .val (.int (own_ix i)), .val (.int (own_ix j)), .val (.int (g i)), .val (.int (g j))] [])) _
            refine XS.aloadN X1028.here hx rfl (hb hby d6_33) rfl rfl ?_
            show Steps p.tables e below (T1028.setTop (mkF m 34 #[.val (.ref gA), .val (.int (own_ix i)), .val (.int (own_ix j)), .val (.int (g i)), .val (.int (g j))] [(.ref gA)])) _
            refine XS.iconst X1028.here hx rfl (hb hby d6_34) ?_
            show Steps p.tables e below (T1028.setTop (mkF m 35 #[.val (.ref gA), .val (.int (own_ix i)), .val (.int (own_ix j)), .val (.int (g i)), .val (.int (g j))] [(.int (2 : Int32)), (.ref gA)])) _
            refine X1028.iaload hx (j := (2 : Int32)) (v := (.int (g 2))) (by rw [e1028]; exact Ar1041.1) (State.isArrayOf_alike hZ.alike Ar1041.2.1) Ar1041.2.2 hin1041 hat1041 (g := (mkF m 35 #[.val (.ref gA), .val (.int (own_ix i)), .val (.int (own_ix j)), .val (.int (g i)), .val (.int (g j))] [(.int (2 : Int32)), (.ref gA)])) rfl rfl (hb hby d6_35) _ ?_
            show Steps p.tables e below (T1028.setTop (mkF m 36 #[.val (.ref gA), .val (.int (own_ix i)), .val (.int (own_ix j)), .val (.int (g i)), .val (.int (g j))] [(.int (g 2))])) _
            refine XS.iload X1028.here hx rfl (hb hby d6_36) rfl ?_
            show Steps p.tables e below (T1028.setTop (mkF m 38 #[.val (.ref gA), .val (.int (own_ix i)), .val (.int (own_ix j)), .val (.int (g i)), .val (.int (g j))] [(.int (g j)), (.int (g 2))])) _
            refine XS.icmpNo X1028.here hx rfl (hb hby d6_38) rfl (teq (hz2 : (g 2) = (g j))).2 ?_
            show Steps p.tables e below (T1028.setTop (mkF m 41 #[.val (.ref gA), .val (.int (own_ix i)), .val (.int (own_ix j)), .val (.int (g i)), .val (.int (g j))] [])) _
            refine XS.aloadN X1028.here hx rfl (hb hby d6_41) rfl rfl ?_
            show Steps p.tables e below (T1028.setTop (mkF m 42 #[.val (.ref gA), .val (.int (own_ix i)), .val (.int (own_ix j)), .val (.int (g i)), .val (.int (g j))] [(.ref gA)])) _
            refine XS.iconst X1028.here hx rfl (hb hby d6_42) ?_
            show Steps p.tables e below (T1028.setTop (mkF m 43 #[.val (.ref gA), .val (.int (own_ix i)), .val (.int (own_ix j)), .val (.int (g i)), .val (.int (g j))] [(.int (2 : Int32)), (.ref gA)])) _
            refine XS.iloadN X1028.here hx rfl (hb hby d6_43) rfl ?_
            show Steps p.tables e below (T1028.setTop (mkF m 44 #[.val (.ref gA), .val (.int (own_ix i)), .val (.int (own_ix j)), .val (.int (g i)), .val (.int (g j))] [(.int (g i)), (.int (2 : Int32)), (.ref gA)])) _
            refine st1043 _ ?_
            show Steps p.tables e below (T1043.setTop (mkF m 45 #[.val (.ref gA), .val (.int (own_ix i)), .val (.int (own_ix j)), .val (.int (g i)), .val (.int (g j))] [])) _
            refine XS.aloadN X1043.here hx rfl (hb hby d6_45) rfl rfl ?_
            show Steps p.tables e below (T1043.setTop (mkF m 46 #[.val (.ref gA), .val (.int (own_ix i)), .val (.int (own_ix j)), .val (.int (g i)), .val (.int (g j))] [(.ref gA)])) _
            refine XS.iconst X1043.here hx rfl (hb hby d6_46) ?_
            show Steps p.tables e below (T1043.setTop (mkF m 47 #[.val (.ref gA), .val (.int (own_ix i)), .val (.int (own_ix j)), .val (.int (g i)), .val (.int (g j))] [(.int (3 : Int32)), (.ref gA)])) _
            refine X1043.iaload hx (j := (3 : Int32)) (v := (.int (g 3))) (by rw [e1043]; exact Ar1044.1) (State.isArrayOf_alike hZ.alike Ar1044.2.1) Ar1044.2.2 hin1044 hat1044 (g := (mkF m 47 #[.val (.ref gA), .val (.int (own_ix i)), .val (.int (own_ix j)), .val (.int (g i)), .val (.int (g j))] [(.int (3 : Int32)), (.ref gA)])) rfl rfl (hb hby d6_47) _ ?_
            show Steps p.tables e below (T1043.setTop (mkF m 48 #[.val (.ref gA), .val (.int (own_ix i)), .val (.int (own_ix j)), .val (.int (g i)), .val (.int (g j))] [(.int (g 3))])) _
            refine XS.iload X1043.here hx rfl (hb hby d6_48) rfl ?_
            show Steps p.tables e below (T1043.setTop (mkF m 50 #[.val (.ref gA), .val (.int (own_ix i)), .val (.int (own_ix j)), .val (.int (g i)), .val (.int (g j))] [(.int (g j)), (.int (g 3))])) _
            refine XS.icmpYes X1043.here hx rfl (pc0 := 50) (pc' := 57) rfl (hb hby d6_50) rfl (feq (hz3 : ¬ ((g 3) = (g j)))).2 (by decide) (by decide) ?_
            show Steps p.tables e below (T1043.setTop (mkF m 57 #[.val (.ref gA), .val (.int (own_ix i)), .val (.int (own_ix j)), .val (.int (g i)), .val (.int (g j))] [])) _
            exact X1043.returnOut hx Bd.returns (hb hby d6_57) hr
          · show Qown_join Z g gA kg i j h0 n0 _ T1043.heap _
            rw [e1043]
            refine ⟨rfl, N1043, K1043, ?_⟩
            rw [show own_jn g i j 0 = g i from if_pos hz0, show own_jn g i j 1 = g 1 from if_neg hz1, show own_jn g i j 2 = g i from if_pos hz2, show own_jn g i j 3 = g 3 from if_neg hz3]
            exact Vw1043
      · obtain ⟨cl1047, Ar1047, q1047, S1047, M1047, Hs1047, G1047⟩ := id Vw1028
        have hin1047 : ¬ ((3 : Int32) < 0 ∨ cl1047.slots.size ≤ ((3 : Int32)).toNatClampNeg) := inb_of S1047 ⟨by decide, by decide⟩
        have hat1047 : cl1047.slots[((3 : Int32)).toNatClampNeg]? = some (.int (g 3)) := Has.at Hs1047 hin1047 rfl
        by_cases hz3 : g 3 = g j
        · obtain ⟨cl1048, Ar1048, q1048, S1048, M1048, Hs1048, G1048⟩ := id Vw1028
          have hin1048 : ¬ ((3 : Int32) < 0 ∨ cl1048.slots.size ≤ ((3 : Int32)).toNatClampNeg) := inb_of S1048 ⟨by decide, by decide⟩
          obtain ⟨T1049, h1049, X1049, e1049, W1049, st1049⟩ := stI X1028 hx hZ e1028 Ar1048 (j := (3 : Int32)) hin1048 (g := (mkF m 56 #[.val (.ref gA), .val (.int (own_ix i)), .val (.int (own_ix j)), .val (.int (g i)), .val (.int (g j))] [(.int (g i)), (.int (3 : Int32)), (.ref gA)])) rfl rfl (hb hby d6_56)
          have K1049 : Keep h0 h1049 [gA] := K1028.wr W1049 (Or.inl (List.mem_of_getElem? (i := 0) rfl))
          have O1049 : Old Z n0 h1049 := O1028.wr W1049 g_gA
          have N1049 := Fr.snoc X1049 N1028 g_gA
          have Vw1049 : Arv Z h1049 gA kg .int (4 : Int32) [(.int (g i)), (.int (g 1)), (.int (g 2)), (.int (g i))] (.int (0 : Int32)) := Arv.set Ar1048 q1048 S1048 M1048 Hs1048 G1048 rfl W1049 3 rfl (Nat.le_of_ble_eq_true rfl)
          obtain ⟨fs, hr, hrun, hended, hW, hsame⟩ := X1049.leave (v := none) (fun _ => rfl)
          refine ⟨_, _, pre0 _ ?_, hrun, hended, _, _, rfl, ?_, ⟨_, rfl⟩, hW, hsame.mono (by decide) (by decide)⟩
          · show Steps p.tables e below (s₁.setTop (mkF m 0 #[.val (.ref gA), .val (.int (own_ix i)), .val (.int (own_ix j)), .unset, .unset] [])) _
            refine XS.aloadN X0.here hx rfl (hb hby d6_0) rfl rfl ?_
            show Steps p.tables e below (s₁.setTop (mkF m 1 #[.val (.ref gA), .val (.int (own_ix i)), .val (.int (own_ix j)), .unset, .unset] [(.ref gA)])) _
            refine XS.iloadN X0.here hx rfl (hb hby d6_1) rfl ?_
            show Steps p.tables e below (s₁.setTop (mkF m 2 #[.val (.ref gA), .val (.int (own_ix i)), .val (.int (own_ix j)), .unset, .unset] [(.int (own_ix i)), (.ref gA)])) _
            refine X0.iaload hx (j := (own_ix i)) (v := (.int (g i))) (by rw [e0]; exact Ar1024.1) (State.isArrayOf_alike hZ.alike Ar1024.2.1) Ar1024.2.2 hin1024 hat1024 (g := (mkF m 2 #[.val (.ref gA), .val (.int (own_ix i)), .val (.int (own_ix j)), .unset, .unset] [(.int (own_ix i)), (.ref gA)])) rfl rfl (hb hby d6_2) _ ?_
            show Steps p.tables e below (s₁.setTop (mkF m 3 #[.val (.ref gA), .val (.int (own_ix i)), .val (.int (own_ix j)), .unset, .unset] [(.int (g i))])) _
            refine XS.istoreN X0.here hx rfl (hb hby d6_3) rfl (l' := #[.val (.ref gA), .val (.int (own_ix i)), .val (.int (own_ix j)), .val (.int (g i)), .unset]) rfl ?_
            show Steps p.tables e below (s₁.setTop (mkF m 4 #[.val (.ref gA), .val (.int (own_ix i)), .val (.int (own_ix j)), .val (.int (g i)), .unset] [])) _
            refine XS.aloadN X0.here hx rfl (hb hby d6_4) rfl rfl ?_
            show Steps p.tables e below (s₁.setTop (mkF m 5 #[.val (.ref gA), .val (.int (own_ix i)), .val (.int (own_ix j)), .val (.int (g i)), .unset] [(.ref gA)])) _
            refine XS.iloadN X0.here hx rfl (hb hby d6_5) rfl ?_
            show Steps p.tables e below (s₁.setTop (mkF m 6 #[.val (.ref gA), .val (.int (own_ix i)), .val (.int (own_ix j)), .val (.int (g i)), .unset] [(.int (own_ix j)), (.ref gA)])) _
            refine X0.iaload hx (j := (own_ix j)) (v := (.int (g j))) (by rw [e0]; exact Ar1025.1) (State.isArrayOf_alike hZ.alike Ar1025.2.1) Ar1025.2.2 hin1025 hat1025 (g := (mkF m 6 #[.val (.ref gA), .val (.int (own_ix i)), .val (.int (own_ix j)), .val (.int (g i)), .unset] [(.int (own_ix j)), (.ref gA)])) rfl rfl (hb hby d6_6) _ ?_
            show Steps p.tables e below (s₁.setTop (mkF m 7 #[.val (.ref gA), .val (.int (own_ix i)), .val (.int (own_ix j)), .val (.int (g i)), .unset] [(.int (g j))])) _
            refine XS.istore X0.here hx rfl (hb hby d6_7) rfl (l' := #[.val (.ref gA), .val (.int (own_ix i)), .val (.int (own_ix j)), .val (.int (g i)), .val (.int (g j))]) rfl ?_
            show Steps p.tables e below (s₁.setTop (mkF m 9 #[.val (.ref gA), .val (.int (own_ix i)), .val (.int (own_ix j)), .val (.int (g i)), .val (.int (g j))] [])) _
            refine XS.aloadN X0.here hx rfl (hb hby d6_9) rfl rfl ?_
            show Steps p.tables e below (s₁.setTop (mkF m 10 #[.val (.ref gA), .val (.int (own_ix i)), .val (.int (own_ix j)), .val (.int (g i)), .val (.int (g j))] [(.ref gA)])) _
            refine XS.iconst X0.here hx rfl (hb hby d6_10) ?_
            show Steps p.tables e below (s₁.setTop (mkF m 11 #[.val (.ref gA), .val (.int (own_ix i)), .val (.int (own_ix j)), .val (.int (g i)), .val (.int (g j))] [(.int (0 : Int32)), (.ref gA)])) _
            refine X0.iaload hx (j := (0 : Int32)) (v := (.int (g 0))) (by rw [e0]; exact Ar1026.1) (State.isArrayOf_alike hZ.alike Ar1026.2.1) Ar1026.2.2 hin1026 hat1026 (g := (mkF m 11 #[.val (.ref gA), .val (.int (own_ix i)), .val (.int (own_ix j)), .val (.int (g i)), .val (.int (g j))] [(.int (0 : Int32)), (.ref gA)])) rfl rfl (hb hby d6_11) _ ?_
            show Steps p.tables e below (s₁.setTop (mkF m 12 #[.val (.ref gA), .val (.int (own_ix i)), .val (.int (own_ix j)), .val (.int (g i)), .val (.int (g j))] [(.int (g 0))])) _
            refine XS.iload X0.here hx rfl (hb hby d6_12) rfl ?_
            show Steps p.tables e below (s₁.setTop (mkF m 14 #[.val (.ref gA), .val (.int (own_ix i)), .val (.int (own_ix j)), .val (.int (g i)), .val (.int (g j))] [(.int (g j)), (.int (g 0))])) _
            refine XS.icmpNo X0.here hx rfl (hb hby d6_14) rfl (teq (hz0 : (g 0) = (g j))).2 ?_
            show Steps p.tables e below (s₁.setTop (mkF m 17 #[.val (.ref gA), .val (.int (own_ix i)), .val (.int (own_ix j)), .val (.int (g i)), .val (.int (g j))] [])) _
            refine XS.aloadN X0.here hx rfl (hb hby d6_17) rfl rfl ?_
            show Steps p.tables e below (s₁.setTop (mkF m 18 #[.val (.ref gA), .val (.int (own_ix i)), .val (.int (own_ix j)), .val (.int (g i)), .val (.int (g j))] [(.ref gA)])) _
            refine XS.iconst X0.here hx rfl (hb hby d6_18) ?_
            show Steps p.tables e below (s₁.setTop (mkF m 19 #[.val (.ref gA), .val (.int (own_ix i)), .val (.int (own_ix j)), .val (.int (g i)), .val (.int (g j))] [(.int (0 : Int32)), (.ref gA)])) _
            refine XS.iloadN X0.here hx rfl (hb hby d6_19) rfl ?_
            show Steps p.tables e below (s₁.setTop (mkF m 20 #[.val (.ref gA), .val (.int (own_ix i)), .val (.int (own_ix j)), .val (.int (g i)), .val (.int (g j))] [(.int (g i)), (.int (0 : Int32)), (.ref gA)])) _
            refine st1028 _ ?_
            show Steps p.tables e below (T1028.setTop (mkF m 21 #[.val (.ref gA), .val (.int (own_ix i)), .val (.int (own_ix j)), .val (.int (g i)), .val (.int (g j))] [])) _
            refine XS.aloadN X1028.here hx rfl (hb hby d6_21) rfl rfl ?_
            show Steps p.tables e below (T1028.setTop (mkF m 22 #[.val (.ref gA), .val (.int (own_ix i)), .val (.int (own_ix j)), .val (.int (g i)), .val (.int (g j))] [(.ref gA)])) _
            refine XS.iconst X1028.here hx rfl (hb hby d6_22) ?_
            show Steps p.tables e below (T1028.setTop (mkF m 23 #[.val (.ref gA), .val (.int (own_ix i)), .val (.int (own_ix j)), .val (.int (g i)), .val (.int (g j))] [(.int (1 : Int32)), (.ref gA)])) _
            refine X1028.iaload hx (j := (1 : Int32)) (v := (.int (g 1))) (by rw [e1028]; exact Ar1029.1) (State.isArrayOf_alike hZ.alike Ar1029.2.1) Ar1029.2.2 hin1029 hat1029 (g := (mkF m 23 #[.val (.ref gA), .val (.int (own_ix i)), .val (.int (own_ix j)), .val (.int (g i)), .val (.int (g j))] [(.int (1 : Int32)), (.ref gA)])) rfl rfl (hb hby d6_23) _ ?_
            show Steps p.tables e below (T1028.setTop (mkF m 24 #[.val (.ref gA), .val (.int (own_ix i)), .val (.int (own_ix j)), .val (.int (g i)), .val (.int (g j))] [(.int (g 1))])) _
            refine XS.iload X1028.here hx rfl (hb hby d6_24) rfl ?_
            show Steps p.tables e below (T1028.setTop (mkF m 26 #[.val (.ref gA), .val (.int (own_ix i)), .val (.int (own_ix j)), .val (.int (g i)), .val (.int (g j))] [(.int (g j)), (.int (g 1))])) _
            refine XS.icmpYes X1028.here hx rfl (pc0 := 26) (pc' := 33) rfl (hb hby d6_26) rfl (feq (hz1 : ¬ ((g 1) = (g j)))).2 (by decide) (by decide) ?_
            show Steps p.tables e below (T1028.setTop (mkF m 33 #[.val (.ref gA), .val (.int (own_ix i)), .val (.int (own_ix j)), .val (.int (g i)), .val (.int (g j))] [])) _
            refine XS.aloadN X1028.here hx rfl (hb hby d6_33) rfl rfl ?_
            show Steps p.tables e below (T1028.setTop (mkF m 34 #[.val (.ref gA), .val (.int (own_ix i)), .val (.int (own_ix j)), .val (.int (g i)), .val (.int (g j))] [(.ref gA)])) _
            refine XS.iconst X1028.here hx rfl (hb hby d6_34) ?_
            show Steps p.tables e below (T1028.setTop (mkF m 35 #[.val (.ref gA), .val (.int (own_ix i)), .val (.int (own_ix j)), .val (.int (g i)), .val (.int (g j))] [(.int (2 : Int32)), (.ref gA)])) _
            refine X1028.iaload hx (j := (2 : Int32)) (v := (.int (g 2))) (by rw [e1028]; exact Ar1041.1) (State.isArrayOf_alike hZ.alike Ar1041.2.1) Ar1041.2.2 hin1041 hat1041 (g := (mkF m 35 #[.val (.ref gA), .val (.int (own_ix i)), .val (.int (own_ix j)), .val (.int (g i)), .val (.int (g j))] [(.int (2 : Int32)), (.ref gA)])) rfl rfl (hb hby d6_35) _ ?_
            show Steps p.tables e below (T1028.setTop (mkF m 36 #[.val (.ref gA), .val (.int (own_ix i)), .val (.int (own_ix j)), .val (.int (g i)), .val (.int (g j))] [(.int (g 2))])) _
            refine XS.iload X1028.here hx rfl (hb hby d6_36) rfl ?_
            show Steps p.tables e below (T1028.setTop (mkF m 38 #[.val (.ref gA), .val (.int (own_ix i)), .val (.int (own_ix j)), .val (.int (g i)), .val (.int (g j))] [(.int (g j)), (.int (g 2))])) _
            refine XS.icmpYes X1028.here hx rfl (pc0 := 38) (pc' := 45) rfl (hb hby d6_38) rfl (feq (hz2 : ¬ ((g 2) = (g j)))).2 (by decide) (by decide) ?_
            show Steps p.tables e below (T1028.setTop (mkF m 45 #[.val (.ref gA), .val (.int (own_ix i)), .val (.int (own_ix j)), .val (.int (g i)), .val (.int (g j))] [])) _
            refine XS.aloadN X1028.here hx rfl (hb hby d6_45) rfl rfl ?_
            show Steps p.tables e below (T1028.setTop (mkF m 46 #[.val (.ref gA), .val (.int (own_ix i)), .val (.int (own_ix j)), .val (.int (g i)), .val (.int (g j))] [(.ref gA)])) _
            refine XS.iconst X1028.here hx rfl (hb hby d6_46) ?_
            show Steps p.tables e below (T1028.setTop (mkF m 47 #[.val (.ref gA), .val (.int (own_ix i)), .val (.int (own_ix j)), .val (.int (g i)), .val (.int (g j))] [(.int (3 : Int32)), (.ref gA)])) _
            refine X1028.iaload hx (j := (3 : Int32)) (v := (.int (g 3))) (by rw [e1028]; exact Ar1047.1) (State.isArrayOf_alike hZ.alike Ar1047.2.1) Ar1047.2.2 hin1047 hat1047 (g := (mkF m 47 #[.val (.ref gA), .val (.int (own_ix i)), .val (.int (own_ix j)), .val (.int (g i)), .val (.int (g j))] [(.int (3 : Int32)), (.ref gA)])) rfl rfl (hb hby d6_47) _ ?_
            show Steps p.tables e below (T1028.setTop (mkF m 48 #[.val (.ref gA), .val (.int (own_ix i)), .val (.int (own_ix j)), .val (.int (g i)), .val (.int (g j))] [(.int (g 3))])) _
            refine XS.iload X1028.here hx rfl (hb hby d6_48) rfl ?_
            show Steps p.tables e below (T1028.setTop (mkF m 50 #[.val (.ref gA), .val (.int (own_ix i)), .val (.int (own_ix j)), .val (.int (g i)), .val (.int (g j))] [(.int (g j)), (.int (g 3))])) _
            refine XS.icmpNo X1028.here hx rfl (hb hby d6_50) rfl (teq (hz3 : (g 3) = (g j))).2 ?_
            show Steps p.tables e below (T1028.setTop (mkF m 53 #[.val (.ref gA), .val (.int (own_ix i)), .val (.int (own_ix j)), .val (.int (g i)), .val (.int (g j))] [])) _
            refine XS.aloadN X1028.here hx rfl (hb hby d6_53) rfl rfl ?_
            show Steps p.tables e below (T1028.setTop (mkF m 54 #[.val (.ref gA), .val (.int (own_ix i)), .val (.int (own_ix j)), .val (.int (g i)), .val (.int (g j))] [(.ref gA)])) _
            refine XS.iconst X1028.here hx rfl (hb hby d6_54) ?_
            show Steps p.tables e below (T1028.setTop (mkF m 55 #[.val (.ref gA), .val (.int (own_ix i)), .val (.int (own_ix j)), .val (.int (g i)), .val (.int (g j))] [(.int (3 : Int32)), (.ref gA)])) _
            refine XS.iloadN X1028.here hx rfl (hb hby d6_55) rfl ?_
            show Steps p.tables e below (T1028.setTop (mkF m 56 #[.val (.ref gA), .val (.int (own_ix i)), .val (.int (own_ix j)), .val (.int (g i)), .val (.int (g j))] [(.int (g i)), (.int (3 : Int32)), (.ref gA)])) _
            refine st1049 _ ?_
            show Steps p.tables e below (T1049.setTop (mkF m 57 #[.val (.ref gA), .val (.int (own_ix i)), .val (.int (own_ix j)), .val (.int (g i)), .val (.int (g j))] [])) _
            exact X1049.returnOut hx Bd.returns (hb hby d6_57) hr
          · show Qown_join Z g gA kg i j h0 n0 _ T1049.heap _
            rw [e1049]
            refine ⟨rfl, N1049, K1049, ?_⟩
            rw [show own_jn g i j 0 = g i from if_pos hz0, show own_jn g i j 1 = g 1 from if_neg hz1, show own_jn g i j 2 = g 2 from if_neg hz2, show own_jn g i j 3 = g i from if_pos hz3]
            exact Vw1049
        · obtain ⟨fs, hr, hrun, hended, hW, hsame⟩ := X1028.leave (v := none) (fun _ => rfl)
          refine ⟨_, _, pre0 _ ?_, hrun, hended, _, _, rfl, ?_, ⟨_, rfl⟩, hW, hsame.mono (by decide) (by decide)⟩
          · show Steps p.tables e below (s₁.setTop (mkF m 0 #[.val (.ref gA), .val (.int (own_ix i)), .val (.int (own_ix j)), .unset, .unset] [])) _
            refine XS.aloadN X0.here hx rfl (hb hby d6_0) rfl rfl ?_
            show Steps p.tables e below (s₁.setTop (mkF m 1 #[.val (.ref gA), .val (.int (own_ix i)), .val (.int (own_ix j)), .unset, .unset] [(.ref gA)])) _
            refine XS.iloadN X0.here hx rfl (hb hby d6_1) rfl ?_
            show Steps p.tables e below (s₁.setTop (mkF m 2 #[.val (.ref gA), .val (.int (own_ix i)), .val (.int (own_ix j)), .unset, .unset] [(.int (own_ix i)), (.ref gA)])) _
            refine X0.iaload hx (j := (own_ix i)) (v := (.int (g i))) (by rw [e0]; exact Ar1024.1) (State.isArrayOf_alike hZ.alike Ar1024.2.1) Ar1024.2.2 hin1024 hat1024 (g := (mkF m 2 #[.val (.ref gA), .val (.int (own_ix i)), .val (.int (own_ix j)), .unset, .unset] [(.int (own_ix i)), (.ref gA)])) rfl rfl (hb hby d6_2) _ ?_
            show Steps p.tables e below (s₁.setTop (mkF m 3 #[.val (.ref gA), .val (.int (own_ix i)), .val (.int (own_ix j)), .unset, .unset] [(.int (g i))])) _
            refine XS.istoreN X0.here hx rfl (hb hby d6_3) rfl (l' := #[.val (.ref gA), .val (.int (own_ix i)), .val (.int (own_ix j)), .val (.int (g i)), .unset]) rfl ?_
            show Steps p.tables e below (s₁.setTop (mkF m 4 #[.val (.ref gA), .val (.int (own_ix i)), .val (.int (own_ix j)), .val (.int (g i)), .unset] [])) _
            refine XS.aloadN X0.here hx rfl (hb hby d6_4) rfl rfl ?_
            show Steps p.tables e below (s₁.setTop (mkF m 5 #[.val (.ref gA), .val (.int (own_ix i)), .val (.int (own_ix j)), .val (.int (g i)), .unset] [(.ref gA)])) _
            refine XS.iloadN X0.here hx rfl (hb hby d6_5) rfl ?_
            show Steps p.tables e below (s₁.setTop (mkF m 6 #[.val (.ref gA), .val (.int (own_ix i)), .val (.int (own_ix j)), .val (.int (g i)), .unset] [(.int (own_ix j)), (.ref gA)])) _
            refine X0.iaload hx (j := (own_ix j)) (v := (.int (g j))) (by rw [e0]; exact Ar1025.1) (State.isArrayOf_alike hZ.alike Ar1025.2.1) Ar1025.2.2 hin1025 hat1025 (g := (mkF m 6 #[.val (.ref gA), .val (.int (own_ix i)), .val (.int (own_ix j)), .val (.int (g i)), .unset] [(.int (own_ix j)), (.ref gA)])) rfl rfl (hb hby d6_6) _ ?_
            show Steps p.tables e below (s₁.setTop (mkF m 7 #[.val (.ref gA), .val (.int (own_ix i)), .val (.int (own_ix j)), .val (.int (g i)), .unset] [(.int (g j))])) _
            refine XS.istore X0.here hx rfl (hb hby d6_7) rfl (l' := #[.val (.ref gA), .val (.int (own_ix i)), .val (.int (own_ix j)), .val (.int (g i)), .val (.int (g j))]) rfl ?_
            show Steps p.tables e below (s₁.setTop (mkF m 9 #[.val (.ref gA), .val (.int (own_ix i)), .val (.int (own_ix j)), .val (.int (g i)), .val (.int (g j))] [])) _
            refine XS.aloadN X0.here hx rfl (hb hby d6_9) rfl rfl ?_
            show Steps p.tables e below (s₁.setTop (mkF m 10 #[.val (.ref gA), .val (.int (own_ix i)), .val (.int (own_ix j)), .val (.int (g i)), .val (.int (g j))] [(.ref gA)])) _
            refine XS.iconst X0.here hx rfl (hb hby d6_10) ?_
            show Steps p.tables e below (s₁.setTop (mkF m 11 #[.val (.ref gA), .val (.int (own_ix i)), .val (.int (own_ix j)), .val (.int (g i)), .val (.int (g j))] [(.int (0 : Int32)), (.ref gA)])) _
            refine X0.iaload hx (j := (0 : Int32)) (v := (.int (g 0))) (by rw [e0]; exact Ar1026.1) (State.isArrayOf_alike hZ.alike Ar1026.2.1) Ar1026.2.2 hin1026 hat1026 (g := (mkF m 11 #[.val (.ref gA), .val (.int (own_ix i)), .val (.int (own_ix j)), .val (.int (g i)), .val (.int (g j))] [(.int (0 : Int32)), (.ref gA)])) rfl rfl (hb hby d6_11) _ ?_
            show Steps p.tables e below (s₁.setTop (mkF m 12 #[.val (.ref gA), .val (.int (own_ix i)), .val (.int (own_ix j)), .val (.int (g i)), .val (.int (g j))] [(.int (g 0))])) _
            refine XS.iload X0.here hx rfl (hb hby d6_12) rfl ?_
            show Steps p.tables e below (s₁.setTop (mkF m 14 #[.val (.ref gA), .val (.int (own_ix i)), .val (.int (own_ix j)), .val (.int (g i)), .val (.int (g j))] [(.int (g j)), (.int (g 0))])) _
            refine XS.icmpNo X0.here hx rfl (hb hby d6_14) rfl (teq (hz0 : (g 0) = (g j))).2 ?_
            show Steps p.tables e below (s₁.setTop (mkF m 17 #[.val (.ref gA), .val (.int (own_ix i)), .val (.int (own_ix j)), .val (.int (g i)), .val (.int (g j))] [])) _
            refine XS.aloadN X0.here hx rfl (hb hby d6_17) rfl rfl ?_
            show Steps p.tables e below (s₁.setTop (mkF m 18 #[.val (.ref gA), .val (.int (own_ix i)), .val (.int (own_ix j)), .val (.int (g i)), .val (.int (g j))] [(.ref gA)])) _
            refine XS.iconst X0.here hx rfl (hb hby d6_18) ?_
            show Steps p.tables e below (s₁.setTop (mkF m 19 #[.val (.ref gA), .val (.int (own_ix i)), .val (.int (own_ix j)), .val (.int (g i)), .val (.int (g j))] [(.int (0 : Int32)), (.ref gA)])) _
            refine XS.iloadN X0.here hx rfl (hb hby d6_19) rfl ?_
            show Steps p.tables e below (s₁.setTop (mkF m 20 #[.val (.ref gA), .val (.int (own_ix i)), .val (.int (own_ix j)), .val (.int (g i)), .val (.int (g j))] [(.int (g i)), (.int (0 : Int32)), (.ref gA)])) _
            refine st1028 _ ?_
            show Steps p.tables e below (T1028.setTop (mkF m 21 #[.val (.ref gA), .val (.int (own_ix i)), .val (.int (own_ix j)), .val (.int (g i)), .val (.int (g j))] [])) _
            refine XS.aloadN X1028.here hx rfl (hb hby d6_21) rfl rfl ?_
            show Steps p.tables e below (T1028.setTop (mkF m 22 #[.val (.ref gA), .val (.int (own_ix i)), .val (.int (own_ix j)), .val (.int (g i)), .val (.int (g j))] [(.ref gA)])) _
            refine XS.iconst X1028.here hx rfl (hb hby d6_22) ?_
            show Steps p.tables e below (T1028.setTop (mkF m 23 #[.val (.ref gA), .val (.int (own_ix i)), .val (.int (own_ix j)), .val (.int (g i)), .val (.int (g j))] [(.int (1 : Int32)), (.ref gA)])) _
            refine X1028.iaload hx (j := (1 : Int32)) (v := (.int (g 1))) (by rw [e1028]; exact Ar1029.1) (State.isArrayOf_alike hZ.alike Ar1029.2.1) Ar1029.2.2 hin1029 hat1029 (g := (mkF m 23 #[.val (.ref gA), .val (.int (own_ix i)), .val (.int (own_ix j)), .val (.int (g i)), .val (.int (g j))] [(.int (1 : Int32)), (.ref gA)])) rfl rfl (hb hby d6_23) _ ?_
            show Steps p.tables e below (T1028.setTop (mkF m 24 #[.val (.ref gA), .val (.int (own_ix i)), .val (.int (own_ix j)), .val (.int (g i)), .val (.int (g j))] [(.int (g 1))])) _
            refine XS.iload X1028.here hx rfl (hb hby d6_24) rfl ?_
            show Steps p.tables e below (T1028.setTop (mkF m 26 #[.val (.ref gA), .val (.int (own_ix i)), .val (.int (own_ix j)), .val (.int (g i)), .val (.int (g j))] [(.int (g j)), (.int (g 1))])) _
            refine XS.icmpYes X1028.here hx rfl (pc0 := 26) (pc' := 33) rfl (hb hby d6_26) rfl (feq (hz1 : ¬ ((g 1) = (g j)))).2 (by decide) (by decide) ?_
            show Steps p.tables e below (T1028.setTop (mkF m 33 #[.val (.ref gA), .val (.int (own_ix i)), .val (.int (own_ix j)), .val (.int (g i)), .val (.int (g j))] [])) _
            refine XS.aloadN X1028.here hx rfl (hb hby d6_33) rfl rfl ?_
            show Steps p.tables e below (T1028.setTop (mkF m 34 #[.val (.ref gA), .val (.int (own_ix i)), .val (.int (own_ix j)), .val (.int (g i)), .val (.int (g j))] [(.ref gA)])) _
            refine XS.iconst X1028.here hx rfl (hb hby d6_34) ?_
            show Steps p.tables e below (T1028.setTop (mkF m 35 #[.val (.ref gA), .val (.int (own_ix i)), .val (.int (own_ix j)), .val (.int (g i)), .val (.int (g j))] [(.int (2 : Int32)), (.ref gA)])) _
            refine X1028.iaload hx (j := (2 : Int32)) (v := (.int (g 2))) (by rw [e1028]; exact Ar1041.1) (State.isArrayOf_alike hZ.alike Ar1041.2.1) Ar1041.2.2 hin1041 hat1041 (g := (mkF m 35 #[.val (.ref gA), .val (.int (own_ix i)), .val (.int (own_ix j)), .val (.int (g i)), .val (.int (g j))] [(.int (2 : Int32)), (.ref gA)])) rfl rfl (hb hby d6_35) _ ?_
            show Steps p.tables e below (T1028.setTop (mkF m 36 #[.val (.ref gA), .val (.int (own_ix i)), .val (.int (own_ix j)), .val (.int (g i)), .val (.int (g j))] [(.int (g 2))])) _
            refine XS.iload X1028.here hx rfl (hb hby d6_36) rfl ?_
            show Steps p.tables e below (T1028.setTop (mkF m 38 #[.val (.ref gA), .val (.int (own_ix i)), .val (.int (own_ix j)), .val (.int (g i)), .val (.int (g j))] [(.int (g j)), (.int (g 2))])) _
            refine XS.icmpYes X1028.here hx rfl (pc0 := 38) (pc' := 45) rfl (hb hby d6_38) rfl (feq (hz2 : ¬ ((g 2) = (g j)))).2 (by decide) (by decide) ?_
            show Steps p.tables e below (T1028.setTop (mkF m 45 #[.val (.ref gA), .val (.int (own_ix i)), .val (.int (own_ix j)), .val (.int (g i)), .val (.int (g j))] [])) _
            refine XS.aloadN X1028.here hx rfl (hb hby d6_45) rfl rfl ?_
            show Steps p.tables e below (T1028.setTop (mkF m 46 #[.val (.ref gA), .val (.int (own_ix i)), .val (.int (own_ix j)), .val (.int (g i)), .val (.int (g j))] [(.ref gA)])) _
            refine XS.iconst X1028.here hx rfl (hb hby d6_46) ?_
            show Steps p.tables e below (T1028.setTop (mkF m 47 #[.val (.ref gA), .val (.int (own_ix i)), .val (.int (own_ix j)), .val (.int (g i)), .val (.int (g j))] [(.int (3 : Int32)), (.ref gA)])) _
            refine X1028.iaload hx (j := (3 : Int32)) (v := (.int (g 3))) (by rw [e1028]; exact Ar1047.1) (State.isArrayOf_alike hZ.alike Ar1047.2.1) Ar1047.2.2 hin1047 hat1047 (g := (mkF m 47 #[.val (.ref gA), .val (.int (own_ix i)), .val (.int (own_ix j)), .val (.int (g i)), .val (.int (g j))] [(.int (3 : Int32)), (.ref gA)])) rfl rfl (hb hby d6_47) _ ?_
            show Steps p.tables e below (T1028.setTop (mkF m 48 #[.val (.ref gA), .val (.int (own_ix i)), .val (.int (own_ix j)), .val (.int (g i)), .val (.int (g j))] [(.int (g 3))])) _
            refine XS.iload X1028.here hx rfl (hb hby d6_48) rfl ?_
            show Steps p.tables e below (T1028.setTop (mkF m 50 #[.val (.ref gA), .val (.int (own_ix i)), .val (.int (own_ix j)), .val (.int (g i)), .val (.int (g j))] [(.int (g j)), (.int (g 3))])) _
            refine XS.icmpYes X1028.here hx rfl (pc0 := 50) (pc' := 57) rfl (hb hby d6_50) rfl (feq (hz3 : ¬ ((g 3) = (g j)))).2 (by decide) (by decide) ?_
            show Steps p.tables e below (T1028.setTop (mkF m 57 #[.val (.ref gA), .val (.int (own_ix i)), .val (.int (own_ix j)), .val (.int (g i)), .val (.int (g j))] [])) _
            exact X1028.returnOut hx Bd.returns (hb hby d6_57) hr
          · show Qown_join Z g gA kg i j h0 n0 _ T1028.heap _
            rw [e1028]
            refine ⟨rfl, N1028, K1028, ?_⟩
            rw [show own_jn g i j 0 = g i from if_pos hz0, show own_jn g i j 1 = g 1 from if_neg hz1, show own_jn g i j 2 = g 2 from if_neg hz2, show own_jn g i j 3 = g 3 from if_neg hz3]
            exact Vw1028
  · obtain ⟨cl1050, Ar1050, q1050, S1050, M1050, Hs1050, G1050⟩ := id Vg
    have hin1050 : ¬ ((1 : Int32) < 0 ∨ cl1050.slots.size ≤ ((1 : Int32)).toNatClampNeg) := inb_of S1050 ⟨by decide, by decide⟩
    have hat1050 : cl1050.slots[((1 : Int32)).toNatClampNeg]? = some (.int (g 1)) := Has.at Hs1050 hin1050 rfl
    by_cases hz1 : g 1 = g j
    · obtain ⟨cl1051, Ar1051, q1051, S1051, M1051, Hs1051, G1051⟩ := id Vg
      have hin1051 : ¬ ((1 : Int32) < 0 ∨ cl1051.slots.size ≤ ((1 : Int32)).toNatClampNeg) := inb_of S1051 ⟨by decide, by decide⟩
      obtain ⟨T1052, h1052, X1052, e1052, W1052, st1052⟩ := stI X0 hx hZ e0 Ar1051 (j := (1 : Int32)) hin1051 (g := (mkF m 32 #[.val (.ref gA), .val (.int (own_ix i)), .val (.int (own_ix j)), .val (.int (g i)), .val (.int (g j))] [(.int (g i)), (.int (1 : Int32)), (.ref gA)])) rfl rfl (hb hby d6_32)
      have K1052 : Keep h0 h1052 [gA] := (Keep.refl h0 [gA]).wr W1052 (Or.inl (List.mem_of_getElem? (i := 0) rfl))
      have O1052 : Old Z n0 h1052 := O0.wr W1052 g_gA
      have N1052 := Fr.snoc X1052 N0 g_gA
      have Vw1052 : Arv Z h1052 gA kg .int (4 : Int32) [(.int (g 0)), (.int (g i)), (.int (g 2)), (.int (g 3))] (.int (0 : Int32)) := Arv.set Ar1051 q1051 S1051 M1051 Hs1051 G1051 rfl W1052 1 rfl (Nat.le_of_ble_eq_true rfl)
      obtain ⟨cl1053, Ar1053, q1053, S1053, M1053, Hs1053, G1053⟩ := id Vw1052
      have hin1053 : ¬ ((2 : Int32) < 0 ∨ cl1053.slots.size ≤ ((2 : Int32)).toNatClampNeg) := inb_of S1053 ⟨by decide, by decide⟩
      have hat1053 : cl1053.slots[((2 : Int32)).toNatClampNeg]? = some (.int (g 2)) := Has.at Hs1053 hin1053 rfl
      by_cases hz2 : g 2 = g j
      · obtain ⟨cl1054, Ar1054, q1054, S1054, M1054, Hs1054, G1054⟩ := id Vw1052
        have hin1054 : ¬ ((2 : Int32) < 0 ∨ cl1054.slots.size ≤ ((2 : Int32)).toNatClampNeg) := inb_of S1054 ⟨by decide, by decide⟩
        obtain ⟨T1055, h1055, X1055, e1055, W1055, st1055⟩ := stI X1052 hx hZ e1052 Ar1054 (j := (2 : Int32)) hin1054 (g := (mkF m 44 #[.val (.ref gA), .val (.int (own_ix i)), .val (.int (own_ix j)), .val (.int (g i)), .val (.int (g j))] [(.int (g i)), (.int (2 : Int32)), (.ref gA)])) rfl rfl (hb hby d6_44)
        have K1055 : Keep h0 h1055 [gA] := K1052.wr W1055 (Or.inl (List.mem_of_getElem? (i := 0) rfl))
        have O1055 : Old Z n0 h1055 := O1052.wr W1055 g_gA
        have N1055 := Fr.snoc X1055 N1052 g_gA
        have Vw1055 : Arv Z h1055 gA kg .int (4 : Int32) [(.int (g 0)), (.int (g i)), (.int (g i)), (.int (g 3))] (.int (0 : Int32)) := Arv.set Ar1054 q1054 S1054 M1054 Hs1054 G1054 rfl W1055 2 rfl (Nat.le_of_ble_eq_true rfl)
        obtain ⟨cl1056, Ar1056, q1056, S1056, M1056, Hs1056, G1056⟩ := id Vw1055
        have hin1056 : ¬ ((3 : Int32) < 0 ∨ cl1056.slots.size ≤ ((3 : Int32)).toNatClampNeg) := inb_of S1056 ⟨by decide, by decide⟩
        have hat1056 : cl1056.slots[((3 : Int32)).toNatClampNeg]? = some (.int (g 3)) := Has.at Hs1056 hin1056 rfl
        by_cases hz3 : g 3 = g j
        · obtain ⟨cl1057, Ar1057, q1057, S1057, M1057, Hs1057, G1057⟩ := id Vw1055
          have hin1057 : ¬ ((3 : Int32) < 0 ∨ cl1057.slots.size ≤ ((3 : Int32)).toNatClampNeg) := inb_of S1057 ⟨by decide, by decide⟩
          obtain ⟨T1058, h1058, X1058, e1058, W1058, st1058⟩ := stI X1055 hx hZ e1055 Ar1057 (j := (3 : Int32)) hin1057 (g := (mkF m 56 #[.val (.ref gA), .val (.int (own_ix i)), .val (.int (own_ix j)), .val (.int (g i)), .val (.int (g j))] [(.int (g i)), (.int (3 : Int32)), (.ref gA)])) rfl rfl (hb hby d6_56)
          have K1058 : Keep h0 h1058 [gA] := K1055.wr W1058 (Or.inl (List.mem_of_getElem? (i := 0) rfl))
          have O1058 : Old Z n0 h1058 := O1055.wr W1058 g_gA
          have N1058 := Fr.snoc X1058 N1055 g_gA
          have Vw1058 : Arv Z h1058 gA kg .int (4 : Int32) [(.int (g 0)), (.int (g i)), (.int (g i)), (.int (g i))] (.int (0 : Int32)) := Arv.set Ar1057 q1057 S1057 M1057 Hs1057 G1057 rfl W1058 3 rfl (Nat.le_of_ble_eq_true rfl)
          obtain ⟨fs, hr, hrun, hended, hW, hsame⟩ := X1058.leave (v := none) (fun _ => rfl)
          refine ⟨_, _, pre0 _ ?_, hrun, hended, _, _, rfl, ?_, ⟨_, rfl⟩, hW, hsame.mono (by decide) (by decide)⟩
          · show Steps p.tables e below (s₁.setTop (mkF m 0 #[.val (.ref gA), .val (.int (own_ix i)), .val (.int (own_ix j)), .unset, .unset] [])) _
            refine XS.aloadN X0.here hx rfl (hb hby d6_0) rfl rfl ?_
            show Steps p.tables e below (s₁.setTop (mkF m 1 #[.val (.ref gA), .val (.int (own_ix i)), .val (.int (own_ix j)), .unset, .unset] [(.ref gA)])) _
            refine XS.iloadN X0.here hx rfl (hb hby d6_1) rfl ?_
            show Steps p.tables e below (s₁.setTop (mkF m 2 #[.val (.ref gA), .val (.int (own_ix i)), .val (.int (own_ix j)), .unset, .unset] [(.int (own_ix i)), (.ref gA)])) _
            refine X0.iaload hx (j := (own_ix i)) (v := (.int (g i))) (by rw [e0]; exact Ar1024.1) (State.isArrayOf_alike hZ.alike Ar1024.2.1) Ar1024.2.2 hin1024 hat1024 (g := (mkF m 2 #[.val (.ref gA), .val (.int (own_ix i)), .val (.int (own_ix j)), .unset, .unset] [(.int (own_ix i)), (.ref gA)])) rfl rfl (hb hby d6_2) _ ?_
            show Steps p.tables e below (s₁.setTop (mkF m 3 #[.val (.ref gA), .val (.int (own_ix i)), .val (.int (own_ix j)), .unset, .unset] [(.int (g i))])) _
            refine XS.istoreN X0.here hx rfl (hb hby d6_3) rfl (l' := #[.val (.ref gA), .val (.int (own_ix i)), .val (.int (own_ix j)), .val (.int (g i)), .unset]) rfl ?_
            show Steps p.tables e below (s₁.setTop (mkF m 4 #[.val (.ref gA), .val (.int (own_ix i)), .val (.int (own_ix j)), .val (.int (g i)), .unset] [])) _
            refine XS.aloadN X0.here hx rfl (hb hby d6_4) rfl rfl ?_
            show Steps p.tables e below (s₁.setTop (mkF m 5 #[.val (.ref gA), .val (.int (own_ix i)), .val (.int (own_ix j)), .val (.int (g i)), .unset] [(.ref gA)])) _
            refine XS.iloadN X0.here hx rfl (hb hby d6_5) rfl ?_
            show Steps p.tables e below (s₁.setTop (mkF m 6 #[.val (.ref gA), .val (.int (own_ix i)), .val (.int (own_ix j)), .val (.int (g i)), .unset] [(.int (own_ix j)), (.ref gA)])) _
            refine X0.iaload hx (j := (own_ix j)) (v := (.int (g j))) (by rw [e0]; exact Ar1025.1) (State.isArrayOf_alike hZ.alike Ar1025.2.1) Ar1025.2.2 hin1025 hat1025 (g := (mkF m 6 #[.val (.ref gA), .val (.int (own_ix i)), .val (.int (own_ix j)), .val (.int (g i)), .unset] [(.int (own_ix j)), (.ref gA)])) rfl rfl (hb hby d6_6) _ ?_
            show Steps p.tables e below (s₁.setTop (mkF m 7 #[.val (.ref gA), .val (.int (own_ix i)), .val (.int (own_ix j)), .val (.int (g i)), .unset] [(.int (g j))])) _
            refine XS.istore X0.here hx rfl (hb hby d6_7) rfl (l' := #[.val (.ref gA), .val (.int (own_ix i)), .val (.int (own_ix j)), .val (.int (g i)), .val (.int (g j))]) rfl ?_
            show Steps p.tables e below (s₁.setTop (mkF m 9 #[.val (.ref gA), .val (.int (own_ix i)), .val (.int (own_ix j)), .val (.int (g i)), .val (.int (g j))] [])) _
            refine XS.aloadN X0.here hx rfl (hb hby d6_9) rfl rfl ?_
            show Steps p.tables e below (s₁.setTop (mkF m 10 #[.val (.ref gA), .val (.int (own_ix i)), .val (.int (own_ix j)), .val (.int (g i)), .val (.int (g j))] [(.ref gA)])) _
            refine XS.iconst X0.here hx rfl (hb hby d6_10) ?_
            show Steps p.tables e below (s₁.setTop (mkF m 11 #[.val (.ref gA), .val (.int (own_ix i)), .val (.int (own_ix j)), .val (.int (g i)), .val (.int (g j))] [(.int (0 : Int32)), (.ref gA)])) _
            refine X0.iaload hx (j := (0 : Int32)) (v := (.int (g 0))) (by rw [e0]; exact Ar1026.1) (State.isArrayOf_alike hZ.alike Ar1026.2.1) Ar1026.2.2 hin1026 hat1026 (g := (mkF m 11 #[.val (.ref gA), .val (.int (own_ix i)), .val (.int (own_ix j)), .val (.int (g i)), .val (.int (g j))] [(.int (0 : Int32)), (.ref gA)])) rfl rfl (hb hby d6_11) _ ?_
            show Steps p.tables e below (s₁.setTop (mkF m 12 #[.val (.ref gA), .val (.int (own_ix i)), .val (.int (own_ix j)), .val (.int (g i)), .val (.int (g j))] [(.int (g 0))])) _
            refine XS.iload X0.here hx rfl (hb hby d6_12) rfl ?_
            show Steps p.tables e below (s₁.setTop (mkF m 14 #[.val (.ref gA), .val (.int (own_ix i)), .val (.int (own_ix j)), .val (.int (g i)), .val (.int (g j))] [(.int (g j)), (.int (g 0))])) _
            refine XS.icmpYes X0.here hx rfl (pc0 := 14) (pc' := 21) rfl (hb hby d6_14) rfl (feq (hz0 : ¬ ((g 0) = (g j)))).2 (by decide) (by decide) ?_
            show Steps p.tables e below (s₁.setTop (mkF m 21 #[.val (.ref gA), .val (.int (own_ix i)), .val (.int (own_ix j)), .val (.int (g i)), .val (.int (g j))] [])) _
            refine XS.aloadN X0.here hx rfl (hb hby d6_21) rfl rfl ?_
            show Steps p.tables e below (s₁.setTop (mkF m 22 #[.val (.ref gA), .val (.int (own_ix i)), .val (.int (own_ix j)), .val (.int (g i)), .val (.int (g j))] [(.ref gA)])) _
            refine XS.iconst X0.here hx rfl (hb hby d6_22) ?_
            show Steps p.tables e below (s₁.setTop (mkF m 23 #[.val (.ref gA), .val (.int (own_ix i)), .val (.int (own_ix j)), .val (.int (g i)), .val (.int (g j))] [(.int (1 : Int32)), (.ref gA)])) _
            refine X0.iaload hx (j := (1 : Int32)) (v := (.int (g 1))) (by rw [e0]; exact Ar1050.1) (State.isArrayOf_alike hZ.alike Ar1050.2.1) Ar1050.2.2 hin1050 hat1050 (g := (mkF m 23 #[.val (.ref gA), .val (.int (own_ix i)), .val (.int (own_ix j)), .val (.int (g i)), .val (.int (g j))] [(.int (1 : Int32)), (.ref gA)])) rfl rfl (hb hby d6_23) _ ?_
            show Steps p.tables e below (s₁.setTop (mkF m 24 #[.val (.ref gA), .val (.int (own_ix i)), .val (.int (own_ix j)), .val (.int (g i)), .val (.int (g j))] [(.int (g 1))])) _
            refine XS.iload X0.here hx rfl (hb hby d6_24) rfl ?_
            show Steps p.tables e below (s₁.setTop (mkF m 26 #[.val (.ref gA), .val (.int (own_ix i)), .val (.int (own_ix j)), .val (.int (g i)), .val (.int (g j))] [(.int (g j)), (.int (g 1))])) _
            refine XS.icmpNo X0.here hx rfl (hb hby d6_26) rfl (teq (hz1 : (g 1) = (g j))).2 ?_
            show Steps p.tables e below (s₁.setTop (mkF m 29 #[.val (.ref gA), .val (.int (own_ix i)), .val (.int (own_ix j)), .val (.int (g i)), .val (.int (g j))] [])) _
            refine XS.aloadN X0.here hx rfl (hb hby d6_29) rfl rfl ?_
            show Steps p.tables e below (s₁.setTop (mkF m 30 #[.val (.ref gA), .val (.int (own_ix i)), .val (.int (own_ix j)), .val (.int (g i)), .val (.int (g j))] [(.ref gA)])) _
            refine XS.iconst X0.here hx rfl (hb hby d6_30) ?_
            show Steps p.tables e below (s₁.setTop (mkF m 31 #[.val (.ref gA), .val (.int (own_ix i)), .val (.int (own_ix j)), .val (.int (g i)), .val (.int (g j))] [(.int (1 : Int32)), (.ref gA)])) _
            refine XS.iloadN X0.here hx rfl (hb hby d6_31) rfl ?_
            show Steps p.tables e below (s₁.setTop (mkF m 32 #[.val (.ref gA), .val (.int (own_ix i)), .val (.int (own_ix j)), .val (.int (g i)), .val (.int (g j))] [(.int (g i)), (.int (1 : Int32)), (.ref gA)])) _
            refine st1052 _ ?_
            show Steps p.tables e below (T1052.setTop (mkF m 33 #[.val (.ref gA), .val (.int (own_ix i)), .val (.int (own_ix j)), .val (.int (g i)), .val (.int (g j))] [])) _
            refine XS.aloadN X1052.here hx rfl (hb hby d6_33) rfl rfl ?_
            show Steps p.tables e below (T1052.setTop (mkF m 34 #[.val (.ref gA), .val (.int (own_ix i)), .val (.int (own_ix j)), .val (.int (g i)), .val (.int (g j))] [(.ref gA)])) _
            refine XS.iconst X1052.here hx rfl (hb hby d6_34) ?_
            show Steps p.tables e below (T1052.setTop (mkF m 35 #[.val (.ref gA), .val (.int (own_ix i)), .val (.int (own_ix j)), .val (.int (g i)), .val (.int (g j))] [(.int (2 : Int32)), (.ref gA)])) _
            refine X1052.iaload hx (j := (2 : Int32)) (v := (.int (g 2))) (by rw [e1052]; exact Ar1053.1) (State.isArrayOf_alike hZ.alike Ar1053.2.1) Ar1053.2.2 hin1053 hat1053 (g := (mkF m 35 #[.val (.ref gA), .val (.int (own_ix i)), .val (.int (own_ix j)), .val (.int (g i)), .val (.int (g j))] [(.int (2 : Int32)), (.ref gA)])) rfl rfl (hb hby d6_35) _ ?_
            show Steps p.tables e below (T1052.setTop (mkF m 36 #[.val (.ref gA), .val (.int (own_ix i)), .val (.int (own_ix j)), .val (.int (g i)), .val (.int (g j))] [(.int (g 2))])) _
            refine XS.iload X1052.here hx rfl (hb hby d6_36) rfl ?_
            show Steps p.tables e below (T1052.setTop (mkF m 38 #[.val (.ref gA), .val (.int (own_ix i)), .val (.int (own_ix j)), .val (.int (g i)), .val (.int (g j))] [(.int (g j)), (.int (g 2))])) _
            refine XS.icmpNo X1052.here hx rfl (hb hby d6_38) rfl (teq (hz2 : (g 2) = (g j))).2 ?_
            show Steps p.tables e below (T1052.setTop (mkF m 41 #[.val (.ref gA), .val (.int (own_ix i)), .val (.int (own_ix j)), .val (.int (g i)), .val (.int (g j))] [])) _
            refine XS.aloadN X1052.here hx rfl (hb hby d6_41) rfl rfl ?_
            show Steps p.tables e below (T1052.setTop (mkF m 42 #[.val (.ref gA), .val (.int (own_ix i)), .val (.int (own_ix j)), .val (.int (g i)), .val (.int (g j))] [(.ref gA)])) _
            refine XS.iconst X1052.here hx rfl (hb hby d6_42) ?_
            show Steps p.tables e below (T1052.setTop (mkF m 43 #[.val (.ref gA), .val (.int (own_ix i)), .val (.int (own_ix j)), .val (.int (g i)), .val (.int (g j))] [(.int (2 : Int32)), (.ref gA)])) _
            refine XS.iloadN X1052.here hx rfl (hb hby d6_43) rfl ?_
            show Steps p.tables e below (T1052.setTop (mkF m 44 #[.val (.ref gA), .val (.int (own_ix i)), .val (.int (own_ix j)), .val (.int (g i)), .val (.int (g j))] [(.int (g i)), (.int (2 : Int32)), (.ref gA)])) _
            refine st1055 _ ?_
            show Steps p.tables e below (T1055.setTop (mkF m 45 #[.val (.ref gA), .val (.int (own_ix i)), .val (.int (own_ix j)), .val (.int (g i)), .val (.int (g j))] [])) _
            refine XS.aloadN X1055.here hx rfl (hb hby d6_45) rfl rfl ?_
            show Steps p.tables e below (T1055.setTop (mkF m 46 #[.val (.ref gA), .val (.int (own_ix i)), .val (.int (own_ix j)), .val (.int (g i)), .val (.int (g j))] [(.ref gA)])) _
            refine XS.iconst X1055.here hx rfl (hb hby d6_46) ?_
            show Steps p.tables e below (T1055.setTop (mkF m 47 #[.val (.ref gA), .val (.int (own_ix i)), .val (.int (own_ix j)), .val (.int (g i)), .val (.int (g j))] [(.int (3 : Int32)), (.ref gA)])) _
            refine X1055.iaload hx (j := (3 : Int32)) (v := (.int (g 3))) (by rw [e1055]; exact Ar1056.1) (State.isArrayOf_alike hZ.alike Ar1056.2.1) Ar1056.2.2 hin1056 hat1056 (g := (mkF m 47 #[.val (.ref gA), .val (.int (own_ix i)), .val (.int (own_ix j)), .val (.int (g i)), .val (.int (g j))] [(.int (3 : Int32)), (.ref gA)])) rfl rfl (hb hby d6_47) _ ?_
            show Steps p.tables e below (T1055.setTop (mkF m 48 #[.val (.ref gA), .val (.int (own_ix i)), .val (.int (own_ix j)), .val (.int (g i)), .val (.int (g j))] [(.int (g 3))])) _
            refine XS.iload X1055.here hx rfl (hb hby d6_48) rfl ?_
            show Steps p.tables e below (T1055.setTop (mkF m 50 #[.val (.ref gA), .val (.int (own_ix i)), .val (.int (own_ix j)), .val (.int (g i)), .val (.int (g j))] [(.int (g j)), (.int (g 3))])) _
            refine XS.icmpNo X1055.here hx rfl (hb hby d6_50) rfl (teq (hz3 : (g 3) = (g j))).2 ?_
            show Steps p.tables e below (T1055.setTop (mkF m 53 #[.val (.ref gA), .val (.int (own_ix i)), .val (.int (own_ix j)), .val (.int (g i)), .val (.int (g j))] [])) _
            refine XS.aloadN X1055.here hx rfl (hb hby d6_53) rfl rfl ?_
            show Steps p.tables e below (T1055.setTop (mkF m 54 #[.val (.ref gA), .val (.int (own_ix i)), .val (.int (own_ix j)), .val (.int (g i)), .val (.int (g j))] [(.ref gA)])) _
            refine XS.iconst X1055.here hx rfl (hb hby d6_54) ?_
            show Steps p.tables e below (T1055.setTop (mkF m 55 #[.val (.ref gA), .val (.int (own_ix i)), .val (.int (own_ix j)), .val (.int (g i)), .val (.int (g j))] [(.int (3 : Int32)), (.ref gA)])) _
            refine XS.iloadN X1055.here hx rfl (hb hby d6_55) rfl ?_
            show Steps p.tables e below (T1055.setTop (mkF m 56 #[.val (.ref gA), .val (.int (own_ix i)), .val (.int (own_ix j)), .val (.int (g i)), .val (.int (g j))] [(.int (g i)), (.int (3 : Int32)), (.ref gA)])) _
            refine st1058 _ ?_
            show Steps p.tables e below (T1058.setTop (mkF m 57 #[.val (.ref gA), .val (.int (own_ix i)), .val (.int (own_ix j)), .val (.int (g i)), .val (.int (g j))] [])) _
            exact X1058.returnOut hx Bd.returns (hb hby d6_57) hr
          · show Qown_join Z g gA kg i j h0 n0 _ T1058.heap _
            rw [e1058]
            refine ⟨rfl, N1058, K1058, ?_⟩
            rw [show own_jn g i j 0 = g 0 from if_neg hz0, show own_jn g i j 1 = g i from if_pos hz1, show own_jn g i j 2 = g i from if_pos hz2, show own_jn g i j 3 = g i from if_pos hz3]
            exact Vw1058
        · obtain ⟨fs, hr, hrun, hended, hW, hsame⟩ := X1055.leave (v := none) (fun _ => rfl)
          refine ⟨_, _, pre0 _ ?_, hrun, hended, _, _, rfl, ?_, ⟨_, rfl⟩, hW, hsame.mono (by decide) (by decide)⟩
          · show Steps p.tables e below (s₁.setTop (mkF m 0 #[.val (.ref gA), .val (.int (own_ix i)), .val (.int (own_ix j)), .unset, .unset] [])) _
            refine XS.aloadN X0.here hx rfl (hb hby d6_0) rfl rfl ?_
            show Steps p.tables e below (s₁.setTop (mkF m 1 #[.val (.ref gA), .val (.int (own_ix i)), .val (.int (own_ix j)), .unset, .unset] [(.ref gA)])) _
            refine XS.iloadN X0.here hx rfl (hb hby d6_1) rfl ?_
            show Steps p.tables e below (s₁.setTop (mkF m 2 #[.val (.ref gA), .val (.int (own_ix i)), .val (.int (own_ix j)), .unset, .unset] [(.int (own_ix i)), (.ref gA)])) _
            refine X0.iaload hx (j := (own_ix i)) (v := (.int (g i))) (by rw [e0]; exact Ar1024.1) (State.isArrayOf_alike hZ.alike Ar1024.2.1) Ar1024.2.2 hin1024 hat1024 (g := (mkF m 2 #[.val (.ref gA), .val (.int (own_ix i)), .val (.int (own_ix j)), .unset, .unset] [(.int (own_ix i)), (.ref gA)])) rfl rfl (hb hby d6_2) _ ?_
            show Steps p.tables e below (s₁.setTop (mkF m 3 #[.val (.ref gA), .val (.int (own_ix i)), .val (.int (own_ix j)), .unset, .unset] [(.int (g i))])) _
            refine XS.istoreN X0.here hx rfl (hb hby d6_3) rfl (l' := #[.val (.ref gA), .val (.int (own_ix i)), .val (.int (own_ix j)), .val (.int (g i)), .unset]) rfl ?_
            show Steps p.tables e below (s₁.setTop (mkF m 4 #[.val (.ref gA), .val (.int (own_ix i)), .val (.int (own_ix j)), .val (.int (g i)), .unset] [])) _
            refine XS.aloadN X0.here hx rfl (hb hby d6_4) rfl rfl ?_
            show Steps p.tables e below (s₁.setTop (mkF m 5 #[.val (.ref gA), .val (.int (own_ix i)), .val (.int (own_ix j)), .val (.int (g i)), .unset] [(.ref gA)])) _
            refine XS.iloadN X0.here hx rfl (hb hby d6_5) rfl ?_
            show Steps p.tables e below (s₁.setTop (mkF m 6 #[.val (.ref gA), .val (.int (own_ix i)), .val (.int (own_ix j)), .val (.int (g i)), .unset] [(.int (own_ix j)), (.ref gA)])) _
            refine X0.iaload hx (j := (own_ix j)) (v := (.int (g j))) (by rw [e0]; exact Ar1025.1) (State.isArrayOf_alike hZ.alike Ar1025.2.1) Ar1025.2.2 hin1025 hat1025 (g := (mkF m 6 #[.val (.ref gA), .val (.int (own_ix i)), .val (.int (own_ix j)), .val (.int (g i)), .unset] [(.int (own_ix j)), (.ref gA)])) rfl rfl (hb hby d6_6) _ ?_
            show Steps p.tables e below (s₁.setTop (mkF m 7 #[.val (.ref gA), .val (.int (own_ix i)), .val (.int (own_ix j)), .val (.int (g i)), .unset] [(.int (g j))])) _
            refine XS.istore X0.here hx rfl (hb hby d6_7) rfl (l' := #[.val (.ref gA), .val (.int (own_ix i)), .val (.int (own_ix j)), .val (.int (g i)), .val (.int (g j))]) rfl ?_
            show Steps p.tables e below (s₁.setTop (mkF m 9 #[.val (.ref gA), .val (.int (own_ix i)), .val (.int (own_ix j)), .val (.int (g i)), .val (.int (g j))] [])) _
            refine XS.aloadN X0.here hx rfl (hb hby d6_9) rfl rfl ?_
            show Steps p.tables e below (s₁.setTop (mkF m 10 #[.val (.ref gA), .val (.int (own_ix i)), .val (.int (own_ix j)), .val (.int (g i)), .val (.int (g j))] [(.ref gA)])) _
            refine XS.iconst X0.here hx rfl (hb hby d6_10) ?_
            show Steps p.tables e below (s₁.setTop (mkF m 11 #[.val (.ref gA), .val (.int (own_ix i)), .val (.int (own_ix j)), .val (.int (g i)), .val (.int (g j))] [(.int (0 : Int32)), (.ref gA)])) _
            refine X0.iaload hx (j := (0 : Int32)) (v := (.int (g 0))) (by rw [e0]; exact Ar1026.1) (State.isArrayOf_alike hZ.alike Ar1026.2.1) Ar1026.2.2 hin1026 hat1026 (g := (mkF m 11 #[.val (.ref gA), .val (.int (own_ix i)), .val (.int (own_ix j)), .val (.int (g i)), .val (.int (g j))] [(.int (0 : Int32)), (.ref gA)])) rfl rfl (hb hby d6_11) _ ?_
            show Steps p.tables e below (s₁.setTop (mkF m 12 #[.val (.ref gA), .val (.int (own_ix i)), .val (.int (own_ix j)), .val (.int (g i)), .val (.int (g j))] [(.int (g 0))])) _
            refine XS.iload X0.here hx rfl (hb hby d6_12) rfl ?_
            show Steps p.tables e below (s₁.setTop (mkF m 14 #[.val (.ref gA), .val (.int (own_ix i)), .val (.int (own_ix j)), .val (.int (g i)), .val (.int (g j))] [(.int (g j)), (.int (g 0))])) _
            refine XS.icmpYes X0.here hx rfl (pc0 := 14) (pc' := 21) rfl (hb hby d6_14) rfl (feq (hz0 : ¬ ((g 0) = (g j)))).2 (by decide) (by decide) ?_
            show Steps p.tables e below (s₁.setTop (mkF m 21 #[.val (.ref gA), .val (.int (own_ix i)), .val (.int (own_ix j)), .val (.int (g i)), .val (.int (g j))] [])) _
            refine XS.aloadN X0.here hx rfl (hb hby d6_21) rfl rfl ?_
            show Steps p.tables e below (s₁.setTop (mkF m 22 #[.val (.ref gA), .val (.int (own_ix i)), .val (.int (own_ix j)), .val (.int (g i)), .val (.int (g j))] [(.ref gA)])) _
            refine XS.iconst X0.here hx rfl (hb hby d6_22) ?_
            show Steps p.tables e below (s₁.setTop (mkF m 23 #[.val (.ref gA), .val (.int (own_ix i)), .val (.int (own_ix j)), .val (.int (g i)), .val (.int (g j))] [(.int (1 : Int32)), (.ref gA)])) _
            refine X0.iaload hx (j := (1 : Int32)) (v := (.int (g 1))) (by rw [e0]; exact Ar1050.1) (State.isArrayOf_alike hZ.alike Ar1050.2.1) Ar1050.2.2 hin1050 hat1050 (g := (mkF m 23 #[.val (.ref gA), .val (.int (own_ix i)), .val (.int (own_ix j)), .val (.int (g i)), .val (.int (g j))] [(.int (1 : Int32)), (.ref gA)])) rfl rfl (hb hby d6_23) _ ?_
            show Steps p.tables e below (s₁.setTop (mkF m 24 #[.val (.ref gA), .val (.int (own_ix i)), .val (.int (own_ix j)), .val (.int (g i)), .val (.int (g j))] [(.int (g 1))])) _
            refine XS.iload X0.here hx rfl (hb hby d6_24) rfl ?_
            show Steps p.tables e below (s₁.setTop (mkF m 26 #[.val (.ref gA), .val (.int (own_ix i)), .val (.int (own_ix j)), .val (.int (g i)), .val (.int (g j))] [(.int (g j)), (.int (g 1))])) _
            refine XS.icmpNo X0.here hx rfl (hb hby d6_26) rfl (teq (hz1 : (g 1) = (g j))).2 ?_
            show Steps p.tables e below (s₁.setTop (mkF m 29 #[.val (.ref gA), .val (.int (own_ix i)), .val (.int (own_ix j)), .val (.int (g i)), .val (.int (g j))] [])) _
            refine XS.aloadN X0.here hx rfl (hb hby d6_29) rfl rfl ?_
            show Steps p.tables e below (s₁.setTop (mkF m 30 #[.val (.ref gA), .val (.int (own_ix i)), .val (.int (own_ix j)), .val (.int (g i)), .val (.int (g j))] [(.ref gA)])) _
            refine XS.iconst X0.here hx rfl (hb hby d6_30) ?_
            show Steps p.tables e below (s₁.setTop (mkF m 31 #[.val (.ref gA), .val (.int (own_ix i)), .val (.int (own_ix j)), .val (.int (g i)), .val (.int (g j))] [(.int (1 : Int32)), (.ref gA)])) _
            refine XS.iloadN X0.here hx rfl (hb hby d6_31) rfl ?_
            show Steps p.tables e below (s₁.setTop (mkF m 32 #[.val (.ref gA), .val (.int (own_ix i)), .val (.int (own_ix j)), .val (.int (g i)), .val (.int (g j))] [(.int (g i)), (.int (1 : Int32)), (.ref gA)])) _
            refine st1052 _ ?_
            show Steps p.tables e below (T1052.setTop (mkF m 33 #[.val (.ref gA), .val (.int (own_ix i)), .val (.int (own_ix j)), .val (.int (g i)), .val (.int (g j))] [])) _
            refine XS.aloadN X1052.here hx rfl (hb hby d6_33) rfl rfl ?_
            show Steps p.tables e below (T1052.setTop (mkF m 34 #[.val (.ref gA), .val (.int (own_ix i)), .val (.int (own_ix j)), .val (.int (g i)), .val (.int (g j))] [(.ref gA)])) _
            refine XS.iconst X1052.here hx rfl (hb hby d6_34) ?_
            show Steps p.tables e below (T1052.setTop (mkF m 35 #[.val (.ref gA), .val (.int (own_ix i)), .val (.int (own_ix j)), .val (.int (g i)), .val (.int (g j))] [(.int (2 : Int32)), (.ref gA)])) _
            refine X1052.iaload hx (j := (2 : Int32)) (v := (.int (g 2))) (by rw [e1052]; exact Ar1053.1) (State.isArrayOf_alike hZ.alike Ar1053.2.1) Ar1053.2.2 hin1053 hat1053 (g := (mkF m 35 #[.val (.ref gA), .val (.int (own_ix i)), .val (.int (own_ix j)), .val (.int (g i)), .val (.int (g j))] [(.int (2 : Int32)), (.ref gA)])) rfl rfl (hb hby d6_35) _ ?_
            show Steps p.tables e below (T1052.setTop (mkF m 36 #[.val (.ref gA), .val (.int (own_ix i)), .val (.int (own_ix j)), .val (.int (g i)), .val (.int (g j))] [(.int (g 2))])) _
            refine XS.iload X1052.here hx rfl (hb hby d6_36) rfl ?_
            show Steps p.tables e below (T1052.setTop (mkF m 38 #[.val (.ref gA), .val (.int (own_ix i)), .val (.int (own_ix j)), .val (.int (g i)), .val (.int (g j))] [(.int (g j)), (.int (g 2))])) _
            refine XS.icmpNo X1052.here hx rfl (hb hby d6_38) rfl (teq (hz2 : (g 2) = (g j))).2 ?_
            show Steps p.tables e below (T1052.setTop (mkF m 41 #[.val (.ref gA), .val (.int (own_ix i)), .val (.int (own_ix j)), .val (.int (g i)), .val (.int (g j))] [])) _
            refine XS.aloadN X1052.here hx rfl (hb hby d6_41) rfl rfl ?_
            show Steps p.tables e below (T1052.setTop (mkF m 42 #[.val (.ref gA), .val (.int (own_ix i)), .val (.int (own_ix j)), .val (.int (g i)), .val (.int (g j))] [(.ref gA)])) _
            refine XS.iconst X1052.here hx rfl (hb hby d6_42) ?_
            show Steps p.tables e below (T1052.setTop (mkF m 43 #[.val (.ref gA), .val (.int (own_ix i)), .val (.int (own_ix j)), .val (.int (g i)), .val (.int (g j))] [(.int (2 : Int32)), (.ref gA)])) _
            refine XS.iloadN X1052.here hx rfl (hb hby d6_43) rfl ?_
            show Steps p.tables e below (T1052.setTop (mkF m 44 #[.val (.ref gA), .val (.int (own_ix i)), .val (.int (own_ix j)), .val (.int (g i)), .val (.int (g j))] [(.int (g i)), (.int (2 : Int32)), (.ref gA)])) _
            refine st1055 _ ?_
            show Steps p.tables e below (T1055.setTop (mkF m 45 #[.val (.ref gA), .val (.int (own_ix i)), .val (.int (own_ix j)), .val (.int (g i)), .val (.int (g j))] [])) _
            refine XS.aloadN X1055.here hx rfl (hb hby d6_45) rfl rfl ?_
            show Steps p.tables e below (T1055.setTop (mkF m 46 #[.val (.ref gA), .val (.int (own_ix i)), .val (.int (own_ix j)), .val (.int (g i)), .val (.int (g j))] [(.ref gA)])) _
            refine XS.iconst X1055.here hx rfl (hb hby d6_46) ?_
            show Steps p.tables e below (T1055.setTop (mkF m 47 #[.val (.ref gA), .val (.int (own_ix i)), .val (.int (own_ix j)), .val (.int (g i)), .val (.int (g j))] [(.int (3 : Int32)), (.ref gA)])) _
            refine X1055.iaload hx (j := (3 : Int32)) (v := (.int (g 3))) (by rw [e1055]; exact Ar1056.1) (State.isArrayOf_alike hZ.alike Ar1056.2.1) Ar1056.2.2 hin1056 hat1056 (g := (mkF m 47 #[.val (.ref gA), .val (.int (own_ix i)), .val (.int (own_ix j)), .val (.int (g i)), .val (.int (g j))] [(.int (3 : Int32)), (.ref gA)])) rfl rfl (hb hby d6_47) _ ?_
            show Steps p.tables e below (T1055.setTop (mkF m 48 #[.val (.ref gA), .val (.int (own_ix i)), .val (.int (own_ix j)), .val (.int (g i)), .val (.int (g j))] [(.int (g 3))])) _
            refine XS.iload X1055.here hx rfl (hb hby d6_48) rfl ?_
            show Steps p.tables e below (T1055.setTop (mkF m 50 #[.val (.ref gA), .val (.int (own_ix i)), .val (.int (own_ix j)), .val (.int (g i)), .val (.int (g j))] [(.int (g j)), (.int (g 3))])) _
            refine XS.icmpYes X1055.here hx rfl (pc0 := 50) (pc' := 57) rfl (hb hby d6_50) rfl (feq (hz3 : ¬ ((g 3) = (g j)))).2 (by decide) (by decide) ?_
            show Steps p.tables e below (T1055.setTop (mkF m 57 #[.val (.ref gA), .val (.int (own_ix i)), .val (.int (own_ix j)), .val (.int (g i)), .val (.int (g j))] [])) _
            exact X1055.returnOut hx Bd.returns (hb hby d6_57) hr
          · show Qown_join Z g gA kg i j h0 n0 _ T1055.heap _
            rw [e1055]
            refine ⟨rfl, N1055, K1055, ?_⟩
            rw [show own_jn g i j 0 = g 0 from if_neg hz0, show own_jn g i j 1 = g i from if_pos hz1, show own_jn g i j 2 = g i from if_pos hz2, show own_jn g i j 3 = g 3 from if_neg hz3]
            exact Vw1055
      · obtain ⟨cl1059, Ar1059, q1059, S1059, M1059, Hs1059, G1059⟩ := id Vw1052
        have hin1059 : ¬ ((3 : Int32) < 0 ∨ cl1059.slots.size ≤ ((3 : Int32)).toNatClampNeg) := inb_of S1059 ⟨by decide, by decide⟩
        have hat1059 : cl1059.slots[((3 : Int32)).toNatClampNeg]? = some (.int (g 3)) := Has.at Hs1059 hin1059 rfl
        by_cases hz3 : g 3 = g j
        · obtain ⟨cl1060, Ar1060, q1060, S1060, M1060, Hs1060, G1060⟩ := id Vw1052
          have hin1060 : ¬ ((3 : Int32) < 0 ∨ cl1060.slots.size ≤ ((3 : Int32)).toNatClampNeg) := inb_of S1060 ⟨by decide, by decide⟩
          obtain ⟨T1061, h1061, X1061, e1061, W1061, st1061⟩ := stI X1052 hx hZ e1052 Ar1060 (j := (3 : Int32)) hin1060 (g := (mkF m 56 #[.val (.ref gA), .val (.int (own_ix i)), .val (.int (own_ix j)), .val (.int (g i)), .val (.int (g j))] [(.int (g i)), (.int (3 : Int32)), (.ref gA)])) rfl rfl (hb hby d6_56)
          have K1061 : Keep h0 h1061 [gA] := K1052.wr W1061 (Or.inl (List.mem_of_getElem? (i := 0) rfl))
          have O1061 : Old Z n0 h1061 := O1052.wr W1061 g_gA
          have N1061 := Fr.snoc X1061 N1052 g_gA
          have Vw1061 : Arv Z h1061 gA kg .int (4 : Int32) [(.int (g 0)), (.int (g i)), (.int (g 2)), (.int (g i))] (.int (0 : Int32)) := Arv.set Ar1060 q1060 S1060 M1060 Hs1060 G1060 rfl W1061 3 rfl (Nat.le_of_ble_eq_true rfl)
          obtain ⟨fs, hr, hrun, hended, hW, hsame⟩ := X1061.leave (v := none) (fun _ => rfl)
          refine ⟨_, _, pre0 _ ?_, hrun, hended, _, _, rfl, ?_, ⟨_, rfl⟩, hW, hsame.mono (by decide) (by decide)⟩
          · show Steps p.tables e below (s₁.setTop (mkF m 0 #[.val (.ref gA), .val (.int (own_ix i)), .val (.int (own_ix j)), .unset, .unset] [])) _
            refine XS.aloadN X0.here hx rfl (hb hby d6_0) rfl rfl ?_
            show Steps p.tables e below (s₁.setTop (mkF m 1 #[.val (.ref gA), .val (.int (own_ix i)), .val (.int (own_ix j)), .unset, .unset] [(.ref gA)])) _
            refine XS.iloadN X0.here hx rfl (hb hby d6_1) rfl ?_
            show Steps p.tables e below (s₁.setTop (mkF m 2 #[.val (.ref gA), .val (.int (own_ix i)), .val (.int (own_ix j)), .unset, .unset] [(.int (own_ix i)), (.ref gA)])) _
            refine X0.iaload hx (j := (own_ix i)) (v := (.int (g i))) (by rw [e0]; exact Ar1024.1) (State.isArrayOf_alike hZ.alike Ar1024.2.1) Ar1024.2.2 hin1024 hat1024 (g := (mkF m 2 #[.val (.ref gA), .val (.int (own_ix i)), .val (.int (own_ix j)), .unset, .unset] [(.int (own_ix i)), (.ref gA)])) rfl rfl (hb hby d6_2) _ ?_
            show Steps p.tables e below (s₁.setTop (mkF m 3 #[.val (.ref gA), .val (.int (own_ix i)), .val (.int (own_ix j)), .unset, .unset] [(.int (g i))])) _
            refine XS.istoreN X0.here hx rfl (hb hby d6_3) rfl (l' := #[.val (.ref gA), .val (.int (own_ix i)), .val (.int (own_ix j)), .val (.int (g i)), .unset]) rfl ?_
            show Steps p.tables e below (s₁.setTop (mkF m 4 #[.val (.ref gA), .val (.int (own_ix i)), .val (.int (own_ix j)), .val (.int (g i)), .unset] [])) _
            refine XS.aloadN X0.here hx rfl (hb hby d6_4) rfl rfl ?_
            show Steps p.tables e below (s₁.setTop (mkF m 5 #[.val (.ref gA), .val (.int (own_ix i)), .val (.int (own_ix j)), .val (.int (g i)), .unset] [(.ref gA)])) _
            refine XS.iloadN X0.here hx rfl (hb hby d6_5) rfl ?_
            show Steps p.tables e below (s₁.setTop (mkF m 6 #[.val (.ref gA), .val (.int (own_ix i)), .val (.int (own_ix j)), .val (.int (g i)), .unset] [(.int (own_ix j)), (.ref gA)])) _
            refine X0.iaload hx (j := (own_ix j)) (v := (.int (g j))) (by rw [e0]; exact Ar1025.1) (State.isArrayOf_alike hZ.alike Ar1025.2.1) Ar1025.2.2 hin1025 hat1025 (g := (mkF m 6 #[.val (.ref gA), .val (.int (own_ix i)), .val (.int (own_ix j)), .val (.int (g i)), .unset] [(.int (own_ix j)), (.ref gA)])) rfl rfl (hb hby d6_6) _ ?_
            show Steps p.tables e below (s₁.setTop (mkF m 7 #[.val (.ref gA), .val (.int (own_ix i)), .val (.int (own_ix j)), .val (.int (g i)), .unset] [(.int (g j))])) _
            refine XS.istore X0.here hx rfl (hb hby d6_7) rfl (l' := #[.val (.ref gA), .val (.int (own_ix i)), .val (.int (own_ix j)), .val (.int (g i)), .val (.int (g j))]) rfl ?_
            show Steps p.tables e below (s₁.setTop (mkF m 9 #[.val (.ref gA), .val (.int (own_ix i)), .val (.int (own_ix j)), .val (.int (g i)), .val (.int (g j))] [])) _
            refine XS.aloadN X0.here hx rfl (hb hby d6_9) rfl rfl ?_
            show Steps p.tables e below (s₁.setTop (mkF m 10 #[.val (.ref gA), .val (.int (own_ix i)), .val (.int (own_ix j)), .val (.int (g i)), .val (.int (g j))] [(.ref gA)])) _
            refine XS.iconst X0.here hx rfl (hb hby d6_10) ?_
            show Steps p.tables e below (s₁.setTop (mkF m 11 #[.val (.ref gA), .val (.int (own_ix i)), .val (.int (own_ix j)), .val (.int (g i)), .val (.int (g j))] [(.int (0 : Int32)), (.ref gA)])) _
            refine X0.iaload hx (j := (0 : Int32)) (v := (.int (g 0))) (by rw [e0]; exact Ar1026.1) (State.isArrayOf_alike hZ.alike Ar1026.2.1) Ar1026.2.2 hin1026 hat1026 (g := (mkF m 11 #[.val (.ref gA), .val (.int (own_ix i)), .val (.int (own_ix j)), .val (.int (g i)), .val (.int (g j))] [(.int (0 : Int32)), (.ref gA)])) rfl rfl (hb hby d6_11) _ ?_
            show Steps p.tables e below (s₁.setTop (mkF m 12 #[.val (.ref gA), .val (.int (own_ix i)), .val (.int (own_ix j)), .val (.int (g i)), .val (.int (g j))] [(.int (g 0))])) _
            refine XS.iload X0.here hx rfl (hb hby d6_12) rfl ?_
            show Steps p.tables e below (s₁.setTop (mkF m 14 #[.val (.ref gA), .val (.int (own_ix i)), .val (.int (own_ix j)), .val (.int (g i)), .val (.int (g j))] [(.int (g j)), (.int (g 0))])) _
            refine XS.icmpYes X0.here hx rfl (pc0 := 14) (pc' := 21) rfl (hb hby d6_14) rfl (feq (hz0 : ¬ ((g 0) = (g j)))).2 (by decide) (by decide) ?_
            show Steps p.tables e below (s₁.setTop (mkF m 21 #[.val (.ref gA), .val (.int (own_ix i)), .val (.int (own_ix j)), .val (.int (g i)), .val (.int (g j))] [])) _
            refine XS.aloadN X0.here hx rfl (hb hby d6_21) rfl rfl ?_
            show Steps p.tables e below (s₁.setTop (mkF m 22 #[.val (.ref gA), .val (.int (own_ix i)), .val (.int (own_ix j)), .val (.int (g i)), .val (.int (g j))] [(.ref gA)])) _
            refine XS.iconst X0.here hx rfl (hb hby d6_22) ?_
            show Steps p.tables e below (s₁.setTop (mkF m 23 #[.val (.ref gA), .val (.int (own_ix i)), .val (.int (own_ix j)), .val (.int (g i)), .val (.int (g j))] [(.int (1 : Int32)), (.ref gA)])) _
            refine X0.iaload hx (j := (1 : Int32)) (v := (.int (g 1))) (by rw [e0]; exact Ar1050.1) (State.isArrayOf_alike hZ.alike Ar1050.2.1) Ar1050.2.2 hin1050 hat1050 (g := (mkF m 23 #[.val (.ref gA), .val (.int (own_ix i)), .val (.int (own_ix j)), .val (.int (g i)), .val (.int (g j))] [(.int (1 : Int32)), (.ref gA)])) rfl rfl (hb hby d6_23) _ ?_
            show Steps p.tables e below (s₁.setTop (mkF m 24 #[.val (.ref gA), .val (.int (own_ix i)), .val (.int (own_ix j)), .val (.int (g i)), .val (.int (g j))] [(.int (g 1))])) _
            refine XS.iload X0.here hx rfl (hb hby d6_24) rfl ?_
            show Steps p.tables e below (s₁.setTop (mkF m 26 #[.val (.ref gA), .val (.int (own_ix i)), .val (.int (own_ix j)), .val (.int (g i)), .val (.int (g j))] [(.int (g j)), (.int (g 1))])) _
            refine XS.icmpNo X0.here hx rfl (hb hby d6_26) rfl (teq (hz1 : (g 1) = (g j))).2 ?_
            show Steps p.tables e below (s₁.setTop (mkF m 29 #[.val (.ref gA), .val (.int (own_ix i)), .val (.int (own_ix j)), .val (.int (g i)), .val (.int (g j))] [])) _
            refine XS.aloadN X0.here hx rfl (hb hby d6_29) rfl rfl ?_
            show Steps p.tables e below (s₁.setTop (mkF m 30 #[.val (.ref gA), .val (.int (own_ix i)), .val (.int (own_ix j)), .val (.int (g i)), .val (.int (g j))] [(.ref gA)])) _
            refine XS.iconst X0.here hx rfl (hb hby d6_30) ?_
            show Steps p.tables e below (s₁.setTop (mkF m 31 #[.val (.ref gA), .val (.int (own_ix i)), .val (.int (own_ix j)), .val (.int (g i)), .val (.int (g j))] [(.int (1 : Int32)), (.ref gA)])) _
            refine XS.iloadN X0.here hx rfl (hb hby d6_31) rfl ?_
            show Steps p.tables e below (s₁.setTop (mkF m 32 #[.val (.ref gA), .val (.int (own_ix i)), .val (.int (own_ix j)), .val (.int (g i)), .val (.int (g j))] [(.int (g i)), (.int (1 : Int32)), (.ref gA)])) _
            refine st1052 _ ?_
            show Steps p.tables e below (T1052.setTop (mkF m 33 #[.val (.ref gA), .val (.int (own_ix i)), .val (.int (own_ix j)), .val (.int (g i)), .val (.int (g j))] [])) _
            refine XS.aloadN X1052.here hx rfl (hb hby d6_33) rfl rfl ?_
            show Steps p.tables e below (T1052.setTop (mkF m 34 #[.val (.ref gA), .val (.int (own_ix i)), .val (.int (own_ix j)), .val (.int (g i)), .val (.int (g j))] [(.ref gA)])) _
            refine XS.iconst X1052.here hx rfl (hb hby d6_34) ?_
            show Steps p.tables e below (T1052.setTop (mkF m 35 #[.val (.ref gA), .val (.int (own_ix i)), .val (.int (own_ix j)), .val (.int (g i)), .val (.int (g j))] [(.int (2 : Int32)), (.ref gA)])) _
            refine X1052.iaload hx (j := (2 : Int32)) (v := (.int (g 2))) (by rw [e1052]; exact Ar1053.1) (State.isArrayOf_alike hZ.alike Ar1053.2.1) Ar1053.2.2 hin1053 hat1053 (g := (mkF m 35 #[.val (.ref gA), .val (.int (own_ix i)), .val (.int (own_ix j)), .val (.int (g i)), .val (.int (g j))] [(.int (2 : Int32)), (.ref gA)])) rfl rfl (hb hby d6_35) _ ?_
            show Steps p.tables e below (T1052.setTop (mkF m 36 #[.val (.ref gA), .val (.int (own_ix i)), .val (.int (own_ix j)), .val (.int (g i)), .val (.int (g j))] [(.int (g 2))])) _
            refine XS.iload X1052.here hx rfl (hb hby d6_36) rfl ?_
            show Steps p.tables e below (T1052.setTop (mkF m 38 #[.val (.ref gA), .val (.int (own_ix i)), .val (.int (own_ix j)), .val (.int (g i)), .val (.int (g j))] [(.int (g j)), (.int (g 2))])) _
            refine XS.icmpYes X1052.here hx rfl (pc0 := 38) (pc' := 45) rfl (hb hby d6_38) rfl (feq (hz2 : ¬ ((g 2) = (g j)))).2 (by decide) (by decide) ?_
            show Steps p.tables e below (T1052.setTop (mkF m 45 #[.val (.ref gA), .val (.int (own_ix i)), .val (.int (own_ix j)), .val (.int (g i)), .val (.int (g j))] [])) _
            refine XS.aloadN X1052.here hx rfl (hb hby d6_45) rfl rfl ?_
            show Steps p.tables e below (T1052.setTop (mkF m 46 #[.val (.ref gA), .val (.int (own_ix i)), .val (.int (own_ix j)), .val (.int (g i)), .val (.int (g j))] [(.ref gA)])) _
            refine XS.iconst X1052.here hx rfl (hb hby d6_46) ?_
            show Steps p.tables e below (T1052.setTop (mkF m 47 #[.val (.ref gA), .val (.int (own_ix i)), .val (.int (own_ix j)), .val (.int (g i)), .val (.int (g j))] [(.int (3 : Int32)), (.ref gA)])) _
            refine X1052.iaload hx (j := (3 : Int32)) (v := (.int (g 3))) (by rw [e1052]; exact Ar1059.1) (State.isArrayOf_alike hZ.alike Ar1059.2.1) Ar1059.2.2 hin1059 hat1059 (g := (mkF m 47 #[.val (.ref gA), .val (.int (own_ix i)), .val (.int (own_ix j)), .val (.int (g i)), .val (.int (g j))] [(.int (3 : Int32)), (.ref gA)])) rfl rfl (hb hby d6_47) _ ?_
            show Steps p.tables e below (T1052.setTop (mkF m 48 #[.val (.ref gA), .val (.int (own_ix i)), .val (.int (own_ix j)), .val (.int (g i)), .val (.int (g j))] [(.int (g 3))])) _
            refine XS.iload X1052.here hx rfl (hb hby d6_48) rfl ?_
            show Steps p.tables e below (T1052.setTop (mkF m 50 #[.val (.ref gA), .val (.int (own_ix i)), .val (.int (own_ix j)), .val (.int (g i)), .val (.int (g j))] [(.int (g j)), (.int (g 3))])) _
            refine XS.icmpNo X1052.here hx rfl (hb hby d6_50) rfl (teq (hz3 : (g 3) = (g j))).2 ?_
            show Steps p.tables e below (T1052.setTop (mkF m 53 #[.val (.ref gA), .val (.int (own_ix i)), .val (.int (own_ix j)), .val (.int (g i)), .val (.int (g j))] [])) _
            refine XS.aloadN X1052.here hx rfl (hb hby d6_53) rfl rfl ?_
            show Steps p.tables e below (T1052.setTop (mkF m 54 #[.val (.ref gA), .val (.int (own_ix i)), .val (.int (own_ix j)), .val (.int (g i)), .val (.int (g j))] [(.ref gA)])) _
            refine XS.iconst X1052.here hx rfl (hb hby d6_54) ?_
            show Steps p.tables e below (T1052.setTop (mkF m 55 #[.val (.ref gA), .val (.int (own_ix i)), .val (.int (own_ix j)), .val (.int (g i)), .val (.int (g j))] [(.int (3 : Int32)), (.ref gA)])) _
            refine XS.iloadN X1052.here hx rfl (hb hby d6_55) rfl ?_
            show Steps p.tables e below (T1052.setTop (mkF m 56 #[.val (.ref gA), .val (.int (own_ix i)), .val (.int (own_ix j)), .val (.int (g i)), .val (.int (g j))] [(.int (g i)), (.int (3 : Int32)), (.ref gA)])) _
            refine st1061 _ ?_
            show Steps p.tables e below (T1061.setTop (mkF m 57 #[.val (.ref gA), .val (.int (own_ix i)), .val (.int (own_ix j)), .val (.int (g i)), .val (.int (g j))] [])) _
            exact X1061.returnOut hx Bd.returns (hb hby d6_57) hr
          · show Qown_join Z g gA kg i j h0 n0 _ T1061.heap _
            rw [e1061]
            refine ⟨rfl, N1061, K1061, ?_⟩
            rw [show own_jn g i j 0 = g 0 from if_neg hz0, show own_jn g i j 1 = g i from if_pos hz1, show own_jn g i j 2 = g 2 from if_neg hz2, show own_jn g i j 3 = g i from if_pos hz3]
            exact Vw1061
        · obtain ⟨fs, hr, hrun, hended, hW, hsame⟩ := X1052.leave (v := none) (fun _ => rfl)
          refine ⟨_, _, pre0 _ ?_, hrun, hended, _, _, rfl, ?_, ⟨_, rfl⟩, hW, hsame.mono (by decide) (by decide)⟩
          · show Steps p.tables e below (s₁.setTop (mkF m 0 #[.val (.ref gA), .val (.int (own_ix i)), .val (.int (own_ix j)), .unset, .unset] [])) _
            refine XS.aloadN X0.here hx rfl (hb hby d6_0) rfl rfl ?_
            show Steps p.tables e below (s₁.setTop (mkF m 1 #[.val (.ref gA), .val (.int (own_ix i)), .val (.int (own_ix j)), .unset, .unset] [(.ref gA)])) _
            refine XS.iloadN X0.here hx rfl (hb hby d6_1) rfl ?_
            show Steps p.tables e below (s₁.setTop (mkF m 2 #[.val (.ref gA), .val (.int (own_ix i)), .val (.int (own_ix j)), .unset, .unset] [(.int (own_ix i)), (.ref gA)])) _
            refine X0.iaload hx (j := (own_ix i)) (v := (.int (g i))) (by rw [e0]; exact Ar1024.1) (State.isArrayOf_alike hZ.alike Ar1024.2.1) Ar1024.2.2 hin1024 hat1024 (g := (mkF m 2 #[.val (.ref gA), .val (.int (own_ix i)), .val (.int (own_ix j)), .unset, .unset] [(.int (own_ix i)), (.ref gA)])) rfl rfl (hb hby d6_2) _ ?_
            show Steps p.tables e below (s₁.setTop (mkF m 3 #[.val (.ref gA), .val (.int (own_ix i)), .val (.int (own_ix j)), .unset, .unset] [(.int (g i))])) _
            refine XS.istoreN X0.here hx rfl (hb hby d6_3) rfl (l' := #[.val (.ref gA), .val (.int (own_ix i)), .val (.int (own_ix j)), .val (.int (g i)), .unset]) rfl ?_
            show Steps p.tables e below (s₁.setTop (mkF m 4 #[.val (.ref gA), .val (.int (own_ix i)), .val (.int (own_ix j)), .val (.int (g i)), .unset] [])) _
            refine XS.aloadN X0.here hx rfl (hb hby d6_4) rfl rfl ?_
            show Steps p.tables e below (s₁.setTop (mkF m 5 #[.val (.ref gA), .val (.int (own_ix i)), .val (.int (own_ix j)), .val (.int (g i)), .unset] [(.ref gA)])) _
            refine XS.iloadN X0.here hx rfl (hb hby d6_5) rfl ?_
            show Steps p.tables e below (s₁.setTop (mkF m 6 #[.val (.ref gA), .val (.int (own_ix i)), .val (.int (own_ix j)), .val (.int (g i)), .unset] [(.int (own_ix j)), (.ref gA)])) _
            refine X0.iaload hx (j := (own_ix j)) (v := (.int (g j))) (by rw [e0]; exact Ar1025.1) (State.isArrayOf_alike hZ.alike Ar1025.2.1) Ar1025.2.2 hin1025 hat1025 (g := (mkF m 6 #[.val (.ref gA), .val (.int (own_ix i)), .val (.int (own_ix j)), .val (.int (g i)), .unset] [(.int (own_ix j)), (.ref gA)])) rfl rfl (hb hby d6_6) _ ?_
            show Steps p.tables e below (s₁.setTop (mkF m 7 #[.val (.ref gA), .val (.int (own_ix i)), .val (.int (own_ix j)), .val (.int (g i)), .unset] [(.int (g j))])) _
            refine XS.istore X0.here hx rfl (hb hby d6_7) rfl (l' := #[.val (.ref gA), .val (.int (own_ix i)), .val (.int (own_ix j)), .val (.int (g i)), .val (.int (g j))]) rfl ?_
            show Steps p.tables e below (s₁.setTop (mkF m 9 #[.val (.ref gA), .val (.int (own_ix i)), .val (.int (own_ix j)), .val (.int (g i)), .val (.int (g j))] [])) _
            refine XS.aloadN X0.here hx rfl (hb hby d6_9) rfl rfl ?_
            show Steps p.tables e below (s₁.setTop (mkF m 10 #[.val (.ref gA), .val (.int (own_ix i)), .val (.int (own_ix j)), .val (.int (g i)), .val (.int (g j))] [(.ref gA)])) _
            refine XS.iconst X0.here hx rfl (hb hby d6_10) ?_
            show Steps p.tables e below (s₁.setTop (mkF m 11 #[.val (.ref gA), .val (.int (own_ix i)), .val (.int (own_ix j)), .val (.int (g i)), .val (.int (g j))] [(.int (0 : Int32)), (.ref gA)])) _
            refine X0.iaload hx (j := (0 : Int32)) (v := (.int (g 0))) (by rw [e0]; exact Ar1026.1) (State.isArrayOf_alike hZ.alike Ar1026.2.1) Ar1026.2.2 hin1026 hat1026 (g := (mkF m 11 #[.val (.ref gA), .val (.int (own_ix i)), .val (.int (own_ix j)), .val (.int (g i)), .val (.int (g j))] [(.int (0 : Int32)), (.ref gA)])) rfl rfl (hb hby d6_11) _ ?_
            show Steps p.tables e below (s₁.setTop (mkF m 12 #[.val (.ref gA), .val (.int (own_ix i)), .val (.int (own_ix j)), .val (.int (g i)), .val (.int (g j))] [(.int (g 0))])) _
            refine XS.iload X0.here hx rfl (hb hby d6_12) rfl ?_
            show Steps p.tables e below (s₁.setTop (mkF m 14 #[.val (.ref gA), .val (.int (own_ix i)), .val (.int (own_ix j)), .val (.int (g i)), .val (.int (g j))] [(.int (g j)), (.int (g 0))])) _
            refine XS.icmpYes X0.here hx rfl (pc0 := 14) (pc' := 21) rfl (hb hby d6_14) rfl (feq (hz0 : ¬ ((g 0) = (g j)))).2 (by decide) (by decide) ?_
            show Steps p.tables e below (s₁.setTop (mkF m 21 #[.val (.ref gA), .val (.int (own_ix i)), .val (.int (own_ix j)), .val (.int (g i)), .val (.int (g j))] [])) _
            refine XS.aloadN X0.here hx rfl (hb hby d6_21) rfl rfl ?_
            show Steps p.tables e below (s₁.setTop (mkF m 22 #[.val (.ref gA), .val (.int (own_ix i)), .val (.int (own_ix j)), .val (.int (g i)), .val (.int (g j))] [(.ref gA)])) _
            refine XS.iconst X0.here hx rfl (hb hby d6_22) ?_
            show Steps p.tables e below (s₁.setTop (mkF m 23 #[.val (.ref gA), .val (.int (own_ix i)), .val (.int (own_ix j)), .val (.int (g i)), .val (.int (g j))] [(.int (1 : Int32)), (.ref gA)])) _
            refine X0.iaload hx (j := (1 : Int32)) (v := (.int (g 1))) (by rw [e0]; exact Ar1050.1) (State.isArrayOf_alike hZ.alike Ar1050.2.1) Ar1050.2.2 hin1050 hat1050 (g := (mkF m 23 #[.val (.ref gA), .val (.int (own_ix i)), .val (.int (own_ix j)), .val (.int (g i)), .val (.int (g j))] [(.int (1 : Int32)), (.ref gA)])) rfl rfl (hb hby d6_23) _ ?_
            show Steps p.tables e below (s₁.setTop (mkF m 24 #[.val (.ref gA), .val (.int (own_ix i)), .val (.int (own_ix j)), .val (.int (g i)), .val (.int (g j))] [(.int (g 1))])) _
            refine XS.iload X0.here hx rfl (hb hby d6_24) rfl ?_
            show Steps p.tables e below (s₁.setTop (mkF m 26 #[.val (.ref gA), .val (.int (own_ix i)), .val (.int (own_ix j)), .val (.int (g i)), .val (.int (g j))] [(.int (g j)), (.int (g 1))])) _
            refine XS.icmpNo X0.here hx rfl (hb hby d6_26) rfl (teq (hz1 : (g 1) = (g j))).2 ?_
            show Steps p.tables e below (s₁.setTop (mkF m 29 #[.val (.ref gA), .val (.int (own_ix i)), .val (.int (own_ix j)), .val (.int (g i)), .val (.int (g j))] [])) _
            refine XS.aloadN X0.here hx rfl (hb hby d6_29) rfl rfl ?_
            show Steps p.tables e below (s₁.setTop (mkF m 30 #[.val (.ref gA), .val (.int (own_ix i)), .val (.int (own_ix j)), .val (.int (g i)), .val (.int (g j))] [(.ref gA)])) _
            refine XS.iconst X0.here hx rfl (hb hby d6_30) ?_
            show Steps p.tables e below (s₁.setTop (mkF m 31 #[.val (.ref gA), .val (.int (own_ix i)), .val (.int (own_ix j)), .val (.int (g i)), .val (.int (g j))] [(.int (1 : Int32)), (.ref gA)])) _
            refine XS.iloadN X0.here hx rfl (hb hby d6_31) rfl ?_
            show Steps p.tables e below (s₁.setTop (mkF m 32 #[.val (.ref gA), .val (.int (own_ix i)), .val (.int (own_ix j)), .val (.int (g i)), .val (.int (g j))] [(.int (g i)), (.int (1 : Int32)), (.ref gA)])) _
            refine st1052 _ ?_
            show Steps p.tables e below (T1052.setTop (mkF m 33 #[.val (.ref gA), .val (.int (own_ix i)), .val (.int (own_ix j)), .val (.int (g i)), .val (.int (g j))] [])) _
            refine XS.aloadN X1052.here hx rfl (hb hby d6_33) rfl rfl ?_
            show Steps p.tables e below (T1052.setTop (mkF m 34 #[.val (.ref gA), .val (.int (own_ix i)), .val (.int (own_ix j)), .val (.int (g i)), .val (.int (g j))] [(.ref gA)])) _
            refine XS.iconst X1052.here hx rfl (hb hby d6_34) ?_
            show Steps p.tables e below (T1052.setTop (mkF m 35 #[.val (.ref gA), .val (.int (own_ix i)), .val (.int (own_ix j)), .val (.int (g i)), .val (.int (g j))] [(.int (2 : Int32)), (.ref gA)])) _
            refine X1052.iaload hx (j := (2 : Int32)) (v := (.int (g 2))) (by rw [e1052]; exact Ar1053.1) (State.isArrayOf_alike hZ.alike Ar1053.2.1) Ar1053.2.2 hin1053 hat1053 (g := (mkF m 35 #[.val (.ref gA), .val (.int (own_ix i)), .val (.int (own_ix j)), .val (.int (g i)), .val (.int (g j))] [(.int (2 : Int32)), (.ref gA)])) rfl rfl (hb hby d6_35) _ ?_
            show Steps p.tables e below (T1052.setTop (mkF m 36 #[.val (.ref gA), .val (.int (own_ix i)), .val (.int (own_ix j)), .val (.int (g i)), .val (.int (g j))] [(.int (g 2))])) _
            refine XS.iload X1052.here hx rfl (hb hby d6_36) rfl ?_
            show Steps p.tables e below (T1052.setTop (mkF m 38 #[.val (.ref gA), .val (.int (own_ix i)), .val (.int (own_ix j)), .val (.int (g i)), .val (.int (g j))] [(.int (g j)), (.int (g 2))])) _
            refine XS.icmpYes X1052.here hx rfl (pc0 := 38) (pc' := 45) rfl (hb hby d6_38) rfl (feq (hz2 : ¬ ((g 2) = (g j)))).2 (by decide) (by decide) ?_
            show Steps p.tables e below (T1052.setTop (mkF m 45 #[.val (.ref gA), .val (.int (own_ix i)), .val (.int (own_ix j)), .val (.int (g i)), .val (.int (g j))] [])) _
            refine XS.aloadN X1052.here hx rfl (hb hby d6_45) rfl rfl ?_
            show Steps p.tables e below (T1052.setTop (mkF m 46 #[.val (.ref gA), .val (.int (own_ix i)), .val (.int (own_ix j)), .val (.int (g i)), .val (.int (g j))] [(.ref gA)])) _
            refine XS.iconst X1052.here hx rfl (hb hby d6_46) ?_
            show Steps p.tables e below (T1052.setTop (mkF m 47 #[.val (.ref gA), .val (.int (own_ix i)), .val (.int (own_ix j)), .val (.int (g i)), .val (.int (g j))] [(.int (3 : Int32)), (.ref gA)])) _
            refine X1052.iaload hx (j := (3 : Int32)) (v := (.int (g 3))) (by rw [e1052]; exact Ar1059.1) (State.isArrayOf_alike hZ.alike Ar1059.2.1) Ar1059.2.2 hin1059 hat1059 (g := (mkF m 47 #[.val (.ref gA), .val (.int (own_ix i)), .val (.int (own_ix j)), .val (.int (g i)), .val (.int (g j))] [(.int (3 : Int32)), (.ref gA)])) rfl rfl (hb hby d6_47) _ ?_
            show Steps p.tables e below (T1052.setTop (mkF m 48 #[.val (.ref gA), .val (.int (own_ix i)), .val (.int (own_ix j)), .val (.int (g i)), .val (.int (g j))] [(.int (g 3))])) _
            refine XS.iload X1052.here hx rfl (hb hby d6_48) rfl ?_
            show Steps p.tables e below (T1052.setTop (mkF m 50 #[.val (.ref gA), .val (.int (own_ix i)), .val (.int (own_ix j)), .val (.int (g i)), .val (.int (g j))] [(.int (g j)), (.int (g 3))])) _
            refine XS.icmpYes X1052.here hx rfl (pc0 := 50) (pc' := 57) rfl (hb hby d6_50) rfl (feq (hz3 : ¬ ((g 3) = (g j)))).2 (by decide) (by decide) ?_
            show Steps p.tables e below (T1052.setTop (mkF m 57 #[.val (.ref gA), .val (.int (own_ix i)), .val (.int (own_ix j)), .val (.int (g i)), .val (.int (g j))] [])) _
            exact X1052.returnOut hx Bd.returns (hb hby d6_57) hr
          · show Qown_join Z g gA kg i j h0 n0 _ T1052.heap _
            rw [e1052]
            refine ⟨rfl, N1052, K1052, ?_⟩
            rw [show own_jn g i j 0 = g 0 from if_neg hz0, show own_jn g i j 1 = g i from if_pos hz1, show own_jn g i j 2 = g 2 from if_neg hz2, show own_jn g i j 3 = g 3 from if_neg hz3]
            exact Vw1052
    · obtain ⟨cl1062, Ar1062, q1062, S1062, M1062, Hs1062, G1062⟩ := id Vg
      have hin1062 : ¬ ((2 : Int32) < 0 ∨ cl1062.slots.size ≤ ((2 : Int32)).toNatClampNeg) := inb_of S1062 ⟨by decide, by decide⟩
      have hat1062 : cl1062.slots[((2 : Int32)).toNatClampNeg]? = some (.int (g 2)) := Has.at Hs1062 hin1062 rfl
      by_cases hz2 : g 2 = g j
      · obtain ⟨cl1063, Ar1063, q1063, S1063, M1063, Hs1063, G1063⟩ := id Vg
        have hin1063 : ¬ ((2 : Int32) < 0 ∨ cl1063.slots.size ≤ ((2 : Int32)).toNatClampNeg) := inb_of S1063 ⟨by decide, by decide⟩
        obtain ⟨T1064, h1064, X1064, e1064, W1064, st1064⟩ := stI X0 hx hZ e0 Ar1063 (j := (2 : Int32)) hin1063 (g := (mkF m 44 #[.val (.ref gA), .val (.int (own_ix i)), .val (.int (own_ix j)), .val (.int (g i)), .val (.int (g j))] [(.int (g i)), (.int (2 : Int32)), (.ref gA)])) rfl rfl (hb hby d6_44)
        have K1064 : Keep h0 h1064 [gA] := (Keep.refl h0 [gA]).wr W1064 (Or.inl (List.mem_of_getElem? (i := 0) rfl))
        have O1064 : Old Z n0 h1064 := O0.wr W1064 g_gA
        have N1064 := Fr.snoc X1064 N0 g_gA
        have Vw1064 : Arv Z h1064 gA kg .int (4 : Int32) [(.int (g 0)), (.int (g 1)), (.int (g i)), (.int (g 3))] (.int (0 : Int32)) := Arv.set Ar1063 q1063 S1063 M1063 Hs1063 G1063 rfl W1064 2 rfl (Nat.le_of_ble_eq_true rfl)
        obtain ⟨cl1065, Ar1065, q1065, S1065, M1065, Hs1065, G1065⟩ := id Vw1064
        have hin1065 : ¬ ((3 : Int32) < 0 ∨ cl1065.slots.size ≤ ((3 : Int32)).toNatClampNeg) := inb_of S1065 ⟨by decide, by decide⟩
        have hat1065 : cl1065.slots[((3 : Int32)).toNatClampNeg]? = some (.int (g 3)) := Has.at Hs1065 hin1065 rfl
        by_cases hz3 : g 3 = g j
        · obtain ⟨cl1066, Ar1066, q1066, S1066, M1066, Hs1066, G1066⟩ := id Vw1064
          have hin1066 : ¬ ((3 : Int32) < 0 ∨ cl1066.slots.size ≤ ((3 : Int32)).toNatClampNeg) := inb_of S1066 ⟨by decide, by decide⟩
          obtain ⟨T1067, h1067, X1067, e1067, W1067, st1067⟩ := stI X1064 hx hZ e1064 Ar1066 (j := (3 : Int32)) hin1066 (g := (mkF m 56 #[.val (.ref gA), .val (.int (own_ix i)), .val (.int (own_ix j)), .val (.int (g i)), .val (.int (g j))] [(.int (g i)), (.int (3 : Int32)), (.ref gA)])) rfl rfl (hb hby d6_56)
          have K1067 : Keep h0 h1067 [gA] := K1064.wr W1067 (Or.inl (List.mem_of_getElem? (i := 0) rfl))
          have O1067 : Old Z n0 h1067 := O1064.wr W1067 g_gA
          have N1067 := Fr.snoc X1067 N1064 g_gA
          have Vw1067 : Arv Z h1067 gA kg .int (4 : Int32) [(.int (g 0)), (.int (g 1)), (.int (g i)), (.int (g i))] (.int (0 : Int32)) := Arv.set Ar1066 q1066 S1066 M1066 Hs1066 G1066 rfl W1067 3 rfl (Nat.le_of_ble_eq_true rfl)
          obtain ⟨fs, hr, hrun, hended, hW, hsame⟩ := X1067.leave (v := none) (fun _ => rfl)
          refine ⟨_, _, pre0 _ ?_, hrun, hended, _, _, rfl, ?_, ⟨_, rfl⟩, hW, hsame.mono (by decide) (by decide)⟩
          · show Steps p.tables e below (s₁.setTop (mkF m 0 #[.val (.ref gA), .val (.int (own_ix i)), .val (.int (own_ix j)), .unset, .unset] [])) _
            refine XS.aloadN X0.here hx rfl (hb hby d6_0) rfl rfl ?_
            show Steps p.tables e below (s₁.setTop (mkF m 1 #[.val (.ref gA), .val (.int (own_ix i)), .val (.int (own_ix j)), .unset, .unset] [(.ref gA)])) _
            refine XS.iloadN X0.here hx rfl (hb hby d6_1) rfl ?_
            show Steps p.tables e below (s₁.setTop (mkF m 2 #[.val (.ref gA), .val (.int (own_ix i)), .val (.int (own_ix j)), .unset, .unset] [(.int (own_ix i)), (.ref gA)])) _
            refine X0.iaload hx (j := (own_ix i)) (v := (.int (g i))) (by rw [e0]; exact Ar1024.1) (State.isArrayOf_alike hZ.alike Ar1024.2.1) Ar1024.2.2 hin1024 hat1024 (g := (mkF m 2 #[.val (.ref gA), .val (.int (own_ix i)), .val (.int (own_ix j)), .unset, .unset] [(.int (own_ix i)), (.ref gA)])) rfl rfl (hb hby d6_2) _ ?_
            show Steps p.tables e below (s₁.setTop (mkF m 3 #[.val (.ref gA), .val (.int (own_ix i)), .val (.int (own_ix j)), .unset, .unset] [(.int (g i))])) _
            refine XS.istoreN X0.here hx rfl (hb hby d6_3) rfl (l' := #[.val (.ref gA), .val (.int (own_ix i)), .val (.int (own_ix j)), .val (.int (g i)), .unset]) rfl ?_
            show Steps p.tables e below (s₁.setTop (mkF m 4 #[.val (.ref gA), .val (.int (own_ix i)), .val (.int (own_ix j)), .val (.int (g i)), .unset] [])) _
            refine XS.aloadN X0.here hx rfl (hb hby d6_4) rfl rfl ?_
            show Steps p.tables e below (s₁.setTop (mkF m 5 #[.val (.ref gA), .val (.int (own_ix i)), .val (.int (own_ix j)), .val (.int (g i)), .unset] [(.ref gA)])) _
            refine XS.iloadN X0.here hx rfl (hb hby d6_5) rfl ?_
            show Steps p.tables e below (s₁.setTop (mkF m 6 #[.val (.ref gA), .val (.int (own_ix i)), .val (.int (own_ix j)), .val (.int (g i)), .unset] [(.int (own_ix j)), (.ref gA)])) _
            refine X0.iaload hx (j := (own_ix j)) (v := (.int (g j))) (by rw [e0]; exact Ar1025.1) (State.isArrayOf_alike hZ.alike Ar1025.2.1) Ar1025.2.2 hin1025 hat1025 (g := (mkF m 6 #[.val (.ref gA), .val (.int (own_ix i)), .val (.int (own_ix j)), .val (.int (g i)), .unset] [(.int (own_ix j)), (.ref gA)])) rfl rfl (hb hby d6_6) _ ?_
            show Steps p.tables e below (s₁.setTop (mkF m 7 #[.val (.ref gA), .val (.int (own_ix i)), .val (.int (own_ix j)), .val (.int (g i)), .unset] [(.int (g j))])) _
            refine XS.istore X0.here hx rfl (hb hby d6_7) rfl (l' := #[.val (.ref gA), .val (.int (own_ix i)), .val (.int (own_ix j)), .val (.int (g i)), .val (.int (g j))]) rfl ?_
            show Steps p.tables e below (s₁.setTop (mkF m 9 #[.val (.ref gA), .val (.int (own_ix i)), .val (.int (own_ix j)), .val (.int (g i)), .val (.int (g j))] [])) _
            refine XS.aloadN X0.here hx rfl (hb hby d6_9) rfl rfl ?_
            show Steps p.tables e below (s₁.setTop (mkF m 10 #[.val (.ref gA), .val (.int (own_ix i)), .val (.int (own_ix j)), .val (.int (g i)), .val (.int (g j))] [(.ref gA)])) _
            refine XS.iconst X0.here hx rfl (hb hby d6_10) ?_
            show Steps p.tables e below (s₁.setTop (mkF m 11 #[.val (.ref gA), .val (.int (own_ix i)), .val (.int (own_ix j)), .val (.int (g i)), .val (.int (g j))] [(.int (0 : Int32)), (.ref gA)])) _
            refine X0.iaload hx (j := (0 : Int32)) (v := (.int (g 0))) (by rw [e0]; exact Ar1026.1) (State.isArrayOf_alike hZ.alike Ar1026.2.1) Ar1026.2.2 hin1026 hat1026 (g := (mkF m 11 #[.val (.ref gA), .val (.int (own_ix i)), .val (.int (own_ix j)), .val (.int (g i)), .val (.int (g j))] [(.int (0 : Int32)), (.ref gA)])) rfl rfl (hb hby d6_11) _ ?_
            show Steps p.tables e below (s₁.setTop (mkF m 12 #[.val (.ref gA), .val (.int (own_ix i)), .val (.int (own_ix j)), .val (.int (g i)), .val (.int (g j))] [(.int (g 0))])) _
            refine XS.iload X0.here hx rfl (hb hby d6_12) rfl ?_
            show Steps p.tables e below (s₁.setTop (mkF m 14 #[.val (.ref gA), .val (.int (own_ix i)), .val (.int (own_ix j)), .val (.int (g i)), .val (.int (g j))] [(.int (g j)), (.int (g 0))])) _
            refine XS.icmpYes X0.here hx rfl (pc0 := 14) (pc' := 21) rfl (hb hby d6_14) rfl (feq (hz0 : ¬ ((g 0) = (g j)))).2 (by decide) (by decide) ?_
            show Steps p.tables e below (s₁.setTop (mkF m 21 #[.val (.ref gA), .val (.int (own_ix i)), .val (.int (own_ix j)), .val (.int (g i)), .val (.int (g j))] [])) _
            refine XS.aloadN X0.here hx rfl (hb hby d6_21) rfl rfl ?_
            show Steps p.tables e below (s₁.setTop (mkF m 22 #[.val (.ref gA), .val (.int (own_ix i)), .val (.int (own_ix j)), .val (.int (g i)), .val (.int (g j))] [(.ref gA)])) _
            refine XS.iconst X0.here hx rfl (hb hby d6_22) ?_
            show Steps p.tables e below (s₁.setTop (mkF m 23 #[.val (.ref gA), .val (.int (own_ix i)), .val (.int (own_ix j)), .val (.int (g i)), .val (.int (g j))] [(.int (1 : Int32)), (.ref gA)])) _
            refine X0.iaload hx (j := (1 : Int32)) (v := (.int (g 1))) (by rw [e0]; exact Ar1050.1) (State.isArrayOf_alike hZ.alike Ar1050.2.1) Ar1050.2.2 hin1050 hat1050 (g := (mkF m 23 #[.val (.ref gA), .val (.int (own_ix i)), .val (.int (own_ix j)), .val (.int (g i)), .val (.int (g j))] [(.int (1 : Int32)), (.ref gA)])) rfl rfl (hb hby d6_23) _ ?_
            show Steps p.tables e below (s₁.setTop (mkF m 24 #[.val (.ref gA), .val (.int (own_ix i)), .val (.int (own_ix j)), .val (.int (g i)), .val (.int (g j))] [(.int (g 1))])) _
            refine XS.iload X0.here hx rfl (hb hby d6_24) rfl ?_
            show Steps p.tables e below (s₁.setTop (mkF m 26 #[.val (.ref gA), .val (.int (own_ix i)), .val (.int (own_ix j)), .val (.int (g i)), .val (.int (g j))] [(.int (g j)), (.int (g 1))])) _
            refine XS.icmpYes X0.here hx rfl (pc0 := 26) (pc' := 33) rfl (hb hby d6_26) rfl (feq (hz1 : ¬ ((g 1) = (g j)))).2 (by decide) (by decide) ?_
            show Steps p.tables e below (s₁.setTop (mkF m 33 #[.val (.ref gA), .val (.int (own_ix i)), .val (.int (own_ix j)), .val (.int (g i)), .val (.int (g j))] [])) _
            refine XS.aloadN X0.here hx rfl (hb hby d6_33) rfl rfl ?_
            show Steps p.tables e below (s₁.setTop (mkF m 34 #[.val (.ref gA), .val (.int (own_ix i)), .val (.int (own_ix j)), .val (.int (g i)), .val (.int (g j))] [(.ref gA)])) _
            refine XS.iconst X0.here hx rfl (hb hby d6_34) ?_
            show Steps p.tables e below (s₁.setTop (mkF m 35 #[.val (.ref gA), .val (.int (own_ix i)), .val (.int (own_ix j)), .val (.int (g i)), .val (.int (g j))] [(.int (2 : Int32)), (.ref gA)])) _
            refine X0.iaload hx (j := (2 : Int32)) (v := (.int (g 2))) (by rw [e0]; exact Ar1062.1) (State.isArrayOf_alike hZ.alike Ar1062.2.1) Ar1062.2.2 hin1062 hat1062 (g := (mkF m 35 #[.val (.ref gA), .val (.int (own_ix i)), .val (.int (own_ix j)), .val (.int (g i)), .val (.int (g j))] [(.int (2 : Int32)), (.ref gA)])) rfl rfl (hb hby d6_35) _ ?_
            show Steps p.tables e below (s₁.setTop (mkF m 36 #[.val (.ref gA), .val (.int (own_ix i)), .val (.int (own_ix j)), .val (.int (g i)), .val (.int (g j))] [(.int (g 2))])) _
            refine XS.iload X0.here hx rfl (hb hby d6_36) rfl ?_
            show Steps p.tables e below (s₁.setTop (mkF m 38 #[.val (.ref gA), .val (.int (own_ix i)), .val (.int (own_ix j)), .val (.int (g i)), .val (.int (g j))] [(.int (g j)), (.int (g 2))])) _
            refine XS.icmpNo X0.here hx rfl (hb hby d6_38) rfl (teq (hz2 : (g 2) = (g j))).2 ?_
            show Steps p.tables e below (s₁.setTop (mkF m 41 #[.val (.ref gA), .val (.int (own_ix i)), .val (.int (own_ix j)), .val (.int (g i)), .val (.int (g j))] [])) _
            refine XS.aloadN X0.here hx rfl (hb hby d6_41) rfl rfl ?_
            show Steps p.tables e below (s₁.setTop (mkF m 42 #[.val (.ref gA), .val (.int (own_ix i)), .val (.int (own_ix j)), .val (.int (g i)), .val (.int (g j))] [(.ref gA)])) _
            refine XS.iconst X0.here hx rfl (hb hby d6_42) ?_
            show Steps p.tables e below (s₁.setTop (mkF m 43 #[.val (.ref gA), .val (.int (own_ix i)), .val (.int (own_ix j)), .val (.int (g i)), .val (.int (g j))] [(.int (2 : Int32)), (.ref gA)])) _
            refine XS.iloadN X0.here hx rfl (hb hby d6_43) rfl ?_
            show Steps p.tables e below (s₁.setTop (mkF m 44 #[.val (.ref gA), .val (.int (own_ix i)), .val (.int (own_ix j)), .val (.int (g i)), .val (.int (g j))] [(.int (g i)), (.int (2 : Int32)), (.ref gA)])) _
            refine st1064 _ ?_
            show Steps p.tables e below (T1064.setTop (mkF m 45 #[.val (.ref gA), .val (.int (own_ix i)), .val (.int (own_ix j)), .val (.int (g i)), .val (.int (g j))] [])) _
            refine XS.aloadN X1064.here hx rfl (hb hby d6_45) rfl rfl ?_
            show Steps p.tables e below (T1064.setTop (mkF m 46 #[.val (.ref gA), .val (.int (own_ix i)), .val (.int (own_ix j)), .val (.int (g i)), .val (.int (g j))] [(.ref gA)])) _
            refine XS.iconst X1064.here hx rfl (hb hby d6_46) ?_
            show Steps p.tables e below (T1064.setTop (mkF m 47 #[.val (.ref gA), .val (.int (own_ix i)), .val (.int (own_ix j)), .val (.int (g i)), .val (.int (g j))] [(.int (3 : Int32)), (.ref gA)])) _
            refine X1064.iaload hx (j := (3 : Int32)) (v := (.int (g 3))) (by rw [e1064]; exact Ar1065.1) (State.isArrayOf_alike hZ.alike Ar1065.2.1) Ar1065.2.2 hin1065 hat1065 (g := (mkF m 47 #[.val (.ref gA), .val (.int (own_ix i)), .val (.int (own_ix j)), .val (.int (g i)), .val (.int (g j))] [(.int (3 : Int32)), (.ref gA)])) rfl rfl (hb hby d6_47) _ ?_
            show Steps p.tables e below (T1064.setTop (mkF m 48 #[.val (.ref gA), .val (.int (own_ix i)), .val (.int (own_ix j)), .val (.int (g i)), .val (.int (g j))] [(.int (g 3))])) _
            refine XS.iload X1064.here hx rfl (hb hby d6_48) rfl ?_
            show Steps p.tables e below (T1064.setTop (mkF m 50 #[.val (.ref gA), .val (.int (own_ix i)), .val (.int (own_ix j)), .val (.int (g i)), .val (.int (g j))] [(.int (g j)), (.int (g 3))])) _
            refine XS.icmpNo X1064.here hx rfl (hb hby d6_50) rfl (teq (hz3 : (g 3) = (g j))).2 ?_
            show Steps p.tables e below (T1064.setTop (mkF m 53 #[.val (.ref gA), .val (.int (own_ix i)), .val (.int (own_ix j)), .val (.int (g i)), .val (.int (g j))] [])) _
            refine XS.aloadN X1064.here hx rfl (hb hby d6_53) rfl rfl ?_
            show Steps p.tables e below (T1064.setTop (mkF m 54 #[.val (.ref gA), .val (.int (own_ix i)), .val (.int (own_ix j)), .val (.int (g i)), .val (.int (g j))] [(.ref gA)])) _
            refine XS.iconst X1064.here hx rfl (hb hby d6_54) ?_
            show Steps p.tables e below (T1064.setTop (mkF m 55 #[.val (.ref gA), .val (.int (own_ix i)), .val (.int (own_ix j)), .val (.int (g i)), .val (.int (g j))] [(.int (3 : Int32)), (.ref gA)])) _
            refine XS.iloadN X1064.here hx rfl (hb hby d6_55) rfl ?_
            show Steps p.tables e below (T1064.setTop (mkF m 56 #[.val (.ref gA), .val (.int (own_ix i)), .val (.int (own_ix j)), .val (.int (g i)), .val (.int (g j))] [(.int (g i)), (.int (3 : Int32)), (.ref gA)])) _
            refine st1067 _ ?_
            show Steps p.tables e below (T1067.setTop (mkF m 57 #[.val (.ref gA), .val (.int (own_ix i)), .val (.int (own_ix j)), .val (.int (g i)), .val (.int (g j))] [])) _
            exact X1067.returnOut hx Bd.returns (hb hby d6_57) hr
          · show Qown_join Z g gA kg i j h0 n0 _ T1067.heap _
            rw [e1067]
            refine ⟨rfl, N1067, K1067, ?_⟩
            rw [show own_jn g i j 0 = g 0 from if_neg hz0, show own_jn g i j 1 = g 1 from if_neg hz1, show own_jn g i j 2 = g i from if_pos hz2, show own_jn g i j 3 = g i from if_pos hz3]
            exact Vw1067
        · obtain ⟨fs, hr, hrun, hended, hW, hsame⟩ := X1064.leave (v := none) (fun _ => rfl)
          refine ⟨_, _, pre0 _ ?_, hrun, hended, _, _, rfl, ?_, ⟨_, rfl⟩, hW, hsame.mono (by decide) (by decide)⟩
          · show Steps p.tables e below (s₁.setTop (mkF m 0 #[.val (.ref gA), .val (.int (own_ix i)), .val (.int (own_ix j)), .unset, .unset] [])) _
            refine XS.aloadN X0.here hx rfl (hb hby d6_0) rfl rfl ?_
            show Steps p.tables e below (s₁.setTop (mkF m 1 #[.val (.ref gA), .val (.int (own_ix i)), .val (.int (own_ix j)), .unset, .unset] [(.ref gA)])) _
            refine XS.iloadN X0.here hx rfl (hb hby d6_1) rfl ?_
            show Steps p.tables e below (s₁.setTop (mkF m 2 #[.val (.ref gA), .val (.int (own_ix i)), .val (.int (own_ix j)), .unset, .unset] [(.int (own_ix i)), (.ref gA)])) _
            refine X0.iaload hx (j := (own_ix i)) (v := (.int (g i))) (by rw [e0]; exact Ar1024.1) (State.isArrayOf_alike hZ.alike Ar1024.2.1) Ar1024.2.2 hin1024 hat1024 (g := (mkF m 2 #[.val (.ref gA), .val (.int (own_ix i)), .val (.int (own_ix j)), .unset, .unset] [(.int (own_ix i)), (.ref gA)])) rfl rfl (hb hby d6_2) _ ?_
            show Steps p.tables e below (s₁.setTop (mkF m 3 #[.val (.ref gA), .val (.int (own_ix i)), .val (.int (own_ix j)), .unset, .unset] [(.int (g i))])) _
            refine XS.istoreN X0.here hx rfl (hb hby d6_3) rfl (l' := #[.val (.ref gA), .val (.int (own_ix i)), .val (.int (own_ix j)), .val (.int (g i)), .unset]) rfl ?_
            show Steps p.tables e below (s₁.setTop (mkF m 4 #[.val (.ref gA), .val (.int (own_ix i)), .val (.int (own_ix j)), .val (.int (g i)), .unset] [])) _
            refine XS.aloadN X0.here hx rfl (hb hby d6_4) rfl rfl ?_
            show Steps p.tables e below (s₁.setTop (mkF m 5 #[.val (.ref gA), .val (.int (own_ix i)), .val (.int (own_ix j)), .val (.int (g i)), .unset] [(.ref gA)])) _
            refine XS.iloadN X0.here hx rfl (hb hby d6_5) rfl ?_
            show Steps p.tables e below (s₁.setTop (mkF m 6 #[.val (.ref gA), .val (.int (own_ix i)), .val (.int (own_ix j)), .val (.int (g i)), .unset] [(.int (own_ix j)), (.ref gA)])) _
            refine X0.iaload hx (j := (own_ix j)) (v := (.int (g j))) (by rw [e0]; exact Ar1025.1) (State.isArrayOf_alike hZ.alike Ar1025.2.1) Ar1025.2.2 hin1025 hat1025 (g := (mkF m 6 #[.val (.ref gA), .val (.int (own_ix i)), .val (.int (own_ix j)), .val (.int (g i)), .unset] [(.int (own_ix j)), (.ref gA)])) rfl rfl (hb hby d6_6) _ ?_
            show Steps p.tables e below (s₁.setTop (mkF m 7 #[.val (.ref gA), .val (.int (own_ix i)), .val (.int (own_ix j)), .val (.int (g i)), .unset] [(.int (g j))])) _
            refine XS.istore X0.here hx rfl (hb hby d6_7) rfl (l' := #[.val (.ref gA), .val (.int (own_ix i)), .val (.int (own_ix j)), .val (.int (g i)), .val (.int (g j))]) rfl ?_
            show Steps p.tables e below (s₁.setTop (mkF m 9 #[.val (.ref gA), .val (.int (own_ix i)), .val (.int (own_ix j)), .val (.int (g i)), .val (.int (g j))] [])) _
            refine XS.aloadN X0.here hx rfl (hb hby d6_9) rfl rfl ?_
            show Steps p.tables e below (s₁.setTop (mkF m 10 #[.val (.ref gA), .val (.int (own_ix i)), .val (.int (own_ix j)), .val (.int (g i)), .val (.int (g j))] [(.ref gA)])) _
            refine XS.iconst X0.here hx rfl (hb hby d6_10) ?_
            show Steps p.tables e below (s₁.setTop (mkF m 11 #[.val (.ref gA), .val (.int (own_ix i)), .val (.int (own_ix j)), .val (.int (g i)), .val (.int (g j))] [(.int (0 : Int32)), (.ref gA)])) _
            refine X0.iaload hx (j := (0 : Int32)) (v := (.int (g 0))) (by rw [e0]; exact Ar1026.1) (State.isArrayOf_alike hZ.alike Ar1026.2.1) Ar1026.2.2 hin1026 hat1026 (g := (mkF m 11 #[.val (.ref gA), .val (.int (own_ix i)), .val (.int (own_ix j)), .val (.int (g i)), .val (.int (g j))] [(.int (0 : Int32)), (.ref gA)])) rfl rfl (hb hby d6_11) _ ?_
            show Steps p.tables e below (s₁.setTop (mkF m 12 #[.val (.ref gA), .val (.int (own_ix i)), .val (.int (own_ix j)), .val (.int (g i)), .val (.int (g j))] [(.int (g 0))])) _
            refine XS.iload X0.here hx rfl (hb hby d6_12) rfl ?_
            show Steps p.tables e below (s₁.setTop (mkF m 14 #[.val (.ref gA), .val (.int (own_ix i)), .val (.int (own_ix j)), .val (.int (g i)), .val (.int (g j))] [(.int (g j)), (.int (g 0))])) _
            refine XS.icmpYes X0.here hx rfl (pc0 := 14) (pc' := 21) rfl (hb hby d6_14) rfl (feq (hz0 : ¬ ((g 0) = (g j)))).2 (by decide) (by decide) ?_
            show Steps p.tables e below (s₁.setTop (mkF m 21 #[.val (.ref gA), .val (.int (own_ix i)), .val (.int (own_ix j)), .val (.int (g i)), .val (.int (g j))] [])) _
            refine XS.aloadN X0.here hx rfl (hb hby d6_21) rfl rfl ?_
            show Steps p.tables e below (s₁.setTop (mkF m 22 #[.val (.ref gA), .val (.int (own_ix i)), .val (.int (own_ix j)), .val (.int (g i)), .val (.int (g j))] [(.ref gA)])) _
            refine XS.iconst X0.here hx rfl (hb hby d6_22) ?_
            show Steps p.tables e below (s₁.setTop (mkF m 23 #[.val (.ref gA), .val (.int (own_ix i)), .val (.int (own_ix j)), .val (.int (g i)), .val (.int (g j))] [(.int (1 : Int32)), (.ref gA)])) _
            refine X0.iaload hx (j := (1 : Int32)) (v := (.int (g 1))) (by rw [e0]; exact Ar1050.1) (State.isArrayOf_alike hZ.alike Ar1050.2.1) Ar1050.2.2 hin1050 hat1050 (g := (mkF m 23 #[.val (.ref gA), .val (.int (own_ix i)), .val (.int (own_ix j)), .val (.int (g i)), .val (.int (g j))] [(.int (1 : Int32)), (.ref gA)])) rfl rfl (hb hby d6_23) _ ?_
            show Steps p.tables e below (s₁.setTop (mkF m 24 #[.val (.ref gA), .val (.int (own_ix i)), .val (.int (own_ix j)), .val (.int (g i)), .val (.int (g j))] [(.int (g 1))])) _
            refine XS.iload X0.here hx rfl (hb hby d6_24) rfl ?_
            show Steps p.tables e below (s₁.setTop (mkF m 26 #[.val (.ref gA), .val (.int (own_ix i)), .val (.int (own_ix j)), .val (.int (g i)), .val (.int (g j))] [(.int (g j)), (.int (g 1))])) _
            refine XS.icmpYes X0.here hx rfl (pc0 := 26) (pc' := 33) rfl (hb hby d6_26) rfl (feq (hz1 : ¬ ((g 1) = (g j)))).2 (by decide) (by decide) ?_
            show Steps p.tables e below (s₁.setTop (mkF m 33 #[.val (.ref gA), .val (.int (own_ix i)), .val (.int (own_ix j)), .val (.int (g i)), .val (.int (g j))] [])) _
            refine XS.aloadN X0.here hx rfl (hb hby d6_33) rfl rfl ?_
            show Steps p.tables e below (s₁.setTop (mkF m 34 #[.val (.ref gA), .val (.int (own_ix i)), .val (.int (own_ix j)), .val (.int (g i)), .val (.int (g j))] [(.ref gA)])) _
            refine XS.iconst X0.here hx rfl (hb hby d6_34) ?_
            show Steps p.tables e below (s₁.setTop (mkF m 35 #[.val (.ref gA), .val (.int (own_ix i)), .val (.int (own_ix j)), .val (.int (g i)), .val (.int (g j))] [(.int (2 : Int32)), (.ref gA)])) _
            refine X0.iaload hx (j := (2 : Int32)) (v := (.int (g 2))) (by rw [e0]; exact Ar1062.1) (State.isArrayOf_alike hZ.alike Ar1062.2.1) Ar1062.2.2 hin1062 hat1062 (g := (mkF m 35 #[.val (.ref gA), .val (.int (own_ix i)), .val (.int (own_ix j)), .val (.int (g i)), .val (.int (g j))] [(.int (2 : Int32)), (.ref gA)])) rfl rfl (hb hby d6_35) _ ?_
            show Steps p.tables e below (s₁.setTop (mkF m 36 #[.val (.ref gA), .val (.int (own_ix i)), .val (.int (own_ix j)), .val (.int (g i)), .val (.int (g j))] [(.int (g 2))])) _
            refine XS.iload X0.here hx rfl (hb hby d6_36) rfl ?_
            show Steps p.tables e below (s₁.setTop (mkF m 38 #[.val (.ref gA), .val (.int (own_ix i)), .val (.int (own_ix j)), .val (.int (g i)), .val (.int (g j))] [(.int (g j)), (.int (g 2))])) _
            refine XS.icmpNo X0.here hx rfl (hb hby d6_38) rfl (teq (hz2 : (g 2) = (g j))).2 ?_
            show Steps p.tables e below (s₁.setTop (mkF m 41 #[.val (.ref gA), .val (.int (own_ix i)), .val (.int (own_ix j)), .val (.int (g i)), .val (.int (g j))] [])) _
            refine XS.aloadN X0.here hx rfl (hb hby d6_41) rfl rfl ?_
            show Steps p.tables e below (s₁.setTop (mkF m 42 #[.val (.ref gA), .val (.int (own_ix i)), .val (.int (own_ix j)), .val (.int (g i)), .val (.int (g j))] [(.ref gA)])) _
            refine XS.iconst X0.here hx rfl (hb hby d6_42) ?_
            show Steps p.tables e below (s₁.setTop (mkF m 43 #[.val (.ref gA), .val (.int (own_ix i)), .val (.int (own_ix j)), .val (.int (g i)), .val (.int (g j))] [(.int (2 : Int32)), (.ref gA)])) _
            refine XS.iloadN X0.here hx rfl (hb hby d6_43) rfl ?_
            show Steps p.tables e below (s₁.setTop (mkF m 44 #[.val (.ref gA), .val (.int (own_ix i)), .val (.int (own_ix j)), .val (.int (g i)), .val (.int (g j))] [(.int (g i)), (.int (2 : Int32)), (.ref gA)])) _
            refine st1064 _ ?_
            show Steps p.tables e below (T1064.setTop (mkF m 45 #[.val (.ref gA), .val (.int (own_ix i)), .val (.int (own_ix j)), .val (.int (g i)), .val (.int (g j))] [])) _
            refine XS.aloadN X1064.here hx rfl (hb hby d6_45) rfl rfl ?_
            show Steps p.tables e below (T1064.setTop (mkF m 46 #[.val (.ref gA), .val (.int (own_ix i)), .val (.int (own_ix j)), .val (.int (g i)), .val (.int (g j))] [(.ref gA)])) _
            refine XS.iconst X1064.here hx rfl (hb hby d6_46) ?_
            show Steps p.tables e below (T1064.setTop (mkF m 47 #[.val (.ref gA), .val (.int (own_ix i)), .val (.int (own_ix j)), .val (.int (g i)), .val (.int (g j))] [(.int (3 : Int32)), (.ref gA)])) _
            refine X1064.iaload hx (j := (3 : Int32)) (v := (.int (g 3))) (by rw [e1064]; exact Ar1065.1) (State.isArrayOf_alike hZ.alike Ar1065.2.1) Ar1065.2.2 hin1065 hat1065 (g := (mkF m 47 #[.val (.ref gA), .val (.int (own_ix i)), .val (.int (own_ix j)), .val (.int (g i)), .val (.int (g j))] [(.int (3 : Int32)), (.ref gA)])) rfl rfl (hb hby d6_47) _ ?_
            show Steps p.tables e below (T1064.setTop (mkF m 48 #[.val (.ref gA), .val (.int (own_ix i)), .val (.int (own_ix j)), .val (.int (g i)), .val (.int (g j))] [(.int (g 3))])) _
            refine XS.iload X1064.here hx rfl (hb hby d6_48) rfl ?_
            show Steps p.tables e below (T1064.setTop (mkF m 50 #[.val (.ref gA), .val (.int (own_ix i)), .val (.int (own_ix j)), .val (.int (g i)), .val (.int (g j))] [(.int (g j)), (.int (g 3))])) _
            refine XS.icmpYes X1064.here hx rfl (pc0 := 50) (pc' := 57) rfl (hb hby d6_50) rfl (feq (hz3 : ¬ ((g 3) = (g j)))).2 (by decide) (by decide) ?_
            show Steps p.tables e below (T1064.setTop (mkF m 57 #[.val (.ref gA), .val (.int (own_ix i)), .val (.int (own_ix j)), .val (.int (g i)), .val (.int (g j))] [])) _
            exact X1064.returnOut hx Bd.returns (hb hby d6_57) hr
          · show Qown_join Z g gA kg i j h0 n0 _ T1064.heap _
            rw [e1064]
            refine ⟨rfl, N1064, K1064, ?_⟩
            rw [show own_jn g i j 0 = g 0 from if_neg hz0, show own_jn g i j 1 = g 1 from if_neg hz1, show own_jn g i j 2 = g i from if_pos hz2, show own_jn g i j 3 = g 3 from if_neg hz3]
            exact Vw1064
      · obtain ⟨cl1068, Ar1068, q1068, S1068, M1068, Hs1068, G1068⟩ := id Vg
        have hin1068 : ¬ ((3 : Int32) < 0 ∨ cl1068.slots.size ≤ ((3 : Int32)).toNatClampNeg) := inb_of S1068 ⟨by decide, by decide⟩
        have hat1068 : cl1068.slots[((3 : Int32)).toNatClampNeg]? = some (.int (g 3)) := Has.at Hs1068 hin1068 rfl
        by_cases hz3 : g 3 = g j
        · obtain ⟨cl1069, Ar1069, q1069, S1069, M1069, Hs1069, G1069⟩ := id Vg
          have hin1069 : ¬ ((3 : Int32) < 0 ∨ cl1069.slots.size ≤ ((3 : Int32)).toNatClampNeg) := inb_of S1069 ⟨by decide, by decide⟩
          obtain ⟨T1070, h1070, X1070, e1070, W1070, st1070⟩ := stI X0 hx hZ e0 Ar1069 (j := (3 : Int32)) hin1069 (g := (mkF m 56 #[.val (.ref gA), .val (.int (own_ix i)), .val (.int (own_ix j)), .val (.int (g i)), .val (.int (g j))] [(.int (g i)), (.int (3 : Int32)), (.ref gA)])) rfl rfl (hb hby d6_56)
          have K1070 : Keep h0 h1070 [gA] := (Keep.refl h0 [gA]).wr W1070 (Or.inl (List.mem_of_getElem? (i := 0) rfl))
          have O1070 : Old Z n0 h1070 := O0.wr W1070 g_gA
          have N1070 := Fr.snoc X1070 N0 g_gA
          have Vw1070 : Arv Z h1070 gA kg .int (4 : Int32) [(.int (g 0)), (.int (g 1)), (.int (g 2)), (.int (g i))] (.int (0 : Int32)) := Arv.set Ar1069 q1069 S1069 M1069 Hs1069 G1069 rfl W1070 3 rfl (Nat.le_of_ble_eq_true rfl)
          obtain ⟨fs, hr, hrun, hended, hW, hsame⟩ := X1070.leave (v := none) (fun _ => rfl)
          refine ⟨_, _, pre0 _ ?_, hrun, hended, _, _, rfl, ?_, ⟨_, rfl⟩, hW, hsame.mono (by decide) (by decide)⟩
          · show Steps p.tables e below (s₁.setTop (mkF m 0 #[.val (.ref gA), .val (.int (own_ix i)), .val (.int (own_ix j)), .unset, .unset] [])) _
            refine XS.aloadN X0.here hx rfl (hb hby d6_0) rfl rfl ?_
            show Steps p.tables e below (s₁.setTop (mkF m 1 #[.val (.ref gA), .val (.int (own_ix i)), .val (.int (own_ix j)), .unset, .unset] [(.ref gA)])) _
            refine XS.iloadN X0.here hx rfl (hb hby d6_1) rfl ?_
            show Steps p.tables e below (s₁.setTop (mkF m 2 #[.val (.ref gA), .val (.int (own_ix i)), .val (.int (own_ix j)), .unset, .unset] [(.int (own_ix i)), (.ref gA)])) _
            refine X0.iaload hx (j := (own_ix i)) (v := (.int (g i))) (by rw [e0]; exact Ar1024.1) (State.isArrayOf_alike hZ.alike Ar1024.2.1) Ar1024.2.2 hin1024 hat1024 (g := (mkF m 2 #[.val (.ref gA), .val (.int (own_ix i)), .val (.int (own_ix j)), .unset, .unset] [(.int (own_ix i)), (.ref gA)])) rfl rfl (hb hby d6_2) _ ?_
            show Steps p.tables e below (s₁.setTop (mkF m 3 #[.val (.ref gA), .val (.int (own_ix i)), .val (.int (own_ix j)), .unset, .unset] [(.int (g i))])) _
            refine XS.istoreN X0.here hx rfl (hb hby d6_3) rfl (l' := #[.val (.ref gA), .val (.int (own_ix i)), .val (.int (own_ix j)), .val (.int (g i)), .unset]) rfl ?_
            show Steps p.tables e below (s₁.setTop (mkF m 4 #[.val (.ref gA), .val (.int (own_ix i)), .val (.int (own_ix j)), .val (.int (g i)), .unset] [])) _
            refine XS.aloadN X0.here hx rfl (hb hby d6_4) rfl rfl ?_
            show Steps p.tables e below (s₁.setTop (mkF m 5 #[.val (.ref gA), .val (.int (own_ix i)), .val (.int (own_ix j)), .val (.int (g i)), .unset] [(.ref gA)])) _
            refine XS.iloadN X0.here hx rfl (hb hby d6_5) rfl ?_
            show Steps p.tables e below (s₁.setTop (mkF m 6 #[.val (.ref gA), .val (.int (own_ix i)), .val (.int (own_ix j)), .val (.int (g i)), .unset] [(.int (own_ix j)), (.ref gA)])) _
            refine X0.iaload hx (j := (own_ix j)) (v := (.int (g j))) (by rw [e0]; exact Ar1025.1) (State.isArrayOf_alike hZ.alike Ar1025.2.1) Ar1025.2.2 hin1025 hat1025 (g := (mkF m 6 #[.val (.ref gA), .val (.int (own_ix i)), .val (.int (own_ix j)), .val (.int (g i)), .unset] [(.int (own_ix j)), (.ref gA)])) rfl rfl (hb hby d6_6) _ ?_
            show Steps p.tables e below (s₁.setTop (mkF m 7 #[.val (.ref gA), .val (.int (own_ix i)), .val (.int (own_ix j)), .val (.int (g i)), .unset] [(.int (g j))])) _
            refine XS.istore X0.here hx rfl (hb hby d6_7) rfl (l' := #[.val (.ref gA), .val (.int (own_ix i)), .val (.int (own_ix j)), .val (.int (g i)), .val (.int (g j))]) rfl ?_
            show Steps p.tables e below (s₁.setTop (mkF m 9 #[.val (.ref gA), .val (.int (own_ix i)), .val (.int (own_ix j)), .val (.int (g i)), .val (.int (g j))] [])) _
            refine XS.aloadN X0.here hx rfl (hb hby d6_9) rfl rfl ?_
            show Steps p.tables e below (s₁.setTop (mkF m 10 #[.val (.ref gA), .val (.int (own_ix i)), .val (.int (own_ix j)), .val (.int (g i)), .val (.int (g j))] [(.ref gA)])) _
            refine XS.iconst X0.here hx rfl (hb hby d6_10) ?_
            show Steps p.tables e below (s₁.setTop (mkF m 11 #[.val (.ref gA), .val (.int (own_ix i)), .val (.int (own_ix j)), .val (.int (g i)), .val (.int (g j))] [(.int (0 : Int32)), (.ref gA)])) _
            refine X0.iaload hx (j := (0 : Int32)) (v := (.int (g 0))) (by rw [e0]; exact Ar1026.1) (State.isArrayOf_alike hZ.alike Ar1026.2.1) Ar1026.2.2 hin1026 hat1026 (g := (mkF m 11 #[.val (.ref gA), .val (.int (own_ix i)), .val (.int (own_ix j)), .val (.int (g i)), .val (.int (g j))] [(.int (0 : Int32)), (.ref gA)])) rfl rfl (hb hby d6_11) _ ?_
            show Steps p.tables e below (s₁.setTop (mkF m 12 #[.val (.ref gA), .val (.int (own_ix i)), .val (.int (own_ix j)), .val (.int (g i)), .val (.int (g j))] [(.int (g 0))])) _
            refine XS.iload X0.here hx rfl (hb hby d6_12) rfl ?_
            show Steps p.tables e below (s₁.setTop (mkF m 14 #[.val (.ref gA), .val (.int (own_ix i)), .val (.int (own_ix j)), .val (.int (g i)), .val (.int (g j))] [(.int (g j)), (.int (g 0))])) _
            refine XS.icmpYes X0.here hx rfl (pc0 := 14) (pc' := 21) rfl (hb hby d6_14) rfl (feq (hz0 : ¬ ((g 0) = (g j)))).2 (by decide) (by decide) ?_
            show Steps p.tables e below (s₁.setTop (mkF m 21 #[.val (.ref gA), .val (.int (own_ix i)), .val (.int (own_ix j)), .val (.int (g i)), .val (.int (g j))] [])) _
            refine XS.aloadN X0.here hx rfl (hb hby d6_21) rfl rfl ?_
            show Steps p.tables e below (s₁.setTop (mkF m 22 #[.val (.ref gA), .val (.int (own_ix i)), .val (.int (own_ix j)), .val (.int (g i)), .val (.int (g j))] [(.ref gA)])) _
            refine XS.iconst X0.here hx rfl (hb hby d6_22) ?_
            show Steps p.tables e below (s₁.setTop (mkF m 23 #[.val (.ref gA), .val (.int (own_ix i)), .val (.int (own_ix j)), .val (.int (g i)), .val (.int (g j))] [(.int (1 : Int32)), (.ref gA)])) _
            refine X0.iaload hx (j := (1 : Int32)) (v := (.int (g 1))) (by rw [e0]; exact Ar1050.1) (State.isArrayOf_alike hZ.alike Ar1050.2.1) Ar1050.2.2 hin1050 hat1050 (g := (mkF m 23 #[.val (.ref gA), .val (.int (own_ix i)), .val (.int (own_ix j)), .val (.int (g i)), .val (.int (g j))] [(.int (1 : Int32)), (.ref gA)])) rfl rfl (hb hby d6_23) _ ?_
            show Steps p.tables e below (s₁.setTop (mkF m 24 #[.val (.ref gA), .val (.int (own_ix i)), .val (.int (own_ix j)), .val (.int (g i)), .val (.int (g j))] [(.int (g 1))])) _
            refine XS.iload X0.here hx rfl (hb hby d6_24) rfl ?_
            show Steps p.tables e below (s₁.setTop (mkF m 26 #[.val (.ref gA), .val (.int (own_ix i)), .val (.int (own_ix j)), .val (.int (g i)), .val (.int (g j))] [(.int (g j)), (.int (g 1))])) _
            refine XS.icmpYes X0.here hx rfl (pc0 := 26) (pc' := 33) rfl (hb hby d6_26) rfl (feq (hz1 : ¬ ((g 1) = (g j)))).2 (by decide) (by decide) ?_
            show Steps p.tables e below (s₁.setTop (mkF m 33 #[.val (.ref gA), .val (.int (own_ix i)), .val (.int (own_ix j)), .val (.int (g i)), .val (.int (g j))] [])) _
            refine XS.aloadN X0.here hx rfl (hb hby d6_33) rfl rfl ?_
            show Steps p.tables e below (s₁.setTop (mkF m 34 #[.val (.ref gA), .val (.int (own_ix i)), .val (.int (own_ix j)), .val (.int (g i)), .val (.int (g j))] [(.ref gA)])) _
            refine XS.iconst X0.here hx rfl (hb hby d6_34) ?_
            show Steps p.tables e below (s₁.setTop (mkF m 35 #[.val (.ref gA), .val (.int (own_ix i)), .val (.int (own_ix j)), .val (.int (g i)), .val (.int (g j))] [(.int (2 : Int32)), (.ref gA)])) _
            refine X0.iaload hx (j := (2 : Int32)) (v := (.int (g 2))) (by rw [e0]; exact Ar1062.1) (State.isArrayOf_alike hZ.alike Ar1062.2.1) Ar1062.2.2 hin1062 hat1062 (g := (mkF m 35 #[.val (.ref gA), .val (.int (own_ix i)), .val (.int (own_ix j)), .val (.int (g i)), .val (.int (g j))] [(.int (2 : Int32)), (.ref gA)])) rfl rfl (hb hby d6_35) _ ?_
            show Steps p.tables e below (s₁.setTop (mkF m 36 #[.val (.ref gA), .val (.int (own_ix i)), .val (.int (own_ix j)), .val (.int (g i)), .val (.int (g j))] [(.int (g 2))])) _
            refine XS.iload X0.here hx rfl (hb hby d6_36) rfl ?_
            show Steps p.tables e below (s₁.setTop (mkF m 38 #[.val (.ref gA), .val (.int (own_ix i)), .val (.int (own_ix j)), .val (.int (g i)), .val (.int (g j))] [(.int (g j)), (.int (g 2))])) _
            refine XS.icmpYes X0.here hx rfl (pc0 := 38) (pc' := 45) rfl (hb hby d6_38) rfl (feq (hz2 : ¬ ((g 2) = (g j)))).2 (by decide) (by decide) ?_
            show Steps p.tables e below (s₁.setTop (mkF m 45 #[.val (.ref gA), .val (.int (own_ix i)), .val (.int (own_ix j)), .val (.int (g i)), .val (.int (g j))] [])) _
            refine XS.aloadN X0.here hx rfl (hb hby d6_45) rfl rfl ?_
            show Steps p.tables e below (s₁.setTop (mkF m 46 #[.val (.ref gA), .val (.int (own_ix i)), .val (.int (own_ix j)), .val (.int (g i)), .val (.int (g j))] [(.ref gA)])) _
            refine XS.iconst X0.here hx rfl (hb hby d6_46) ?_
            show Steps p.tables e below (s₁.setTop (mkF m 47 #[.val (.ref gA), .val (.int (own_ix i)), .val (.int (own_ix j)), .val (.int (g i)), .val (.int (g j))] [(.int (3 : Int32)), (.ref gA)])) _
            refine X0.iaload hx (j := (3 : Int32)) (v := (.int (g 3))) (by rw [e0]; exact Ar1068.1) (State.isArrayOf_alike hZ.alike Ar1068.2.1) Ar1068.2.2 hin1068 hat1068 (g := (mkF m 47 #[.val (.ref gA), .val (.int (own_ix i)), .val (.int (own_ix j)), .val (.int (g i)), .val (.int (g j))] [(.int (3 : Int32)), (.ref gA)])) rfl rfl (hb hby d6_47) _ ?_
            show Steps p.tables e below (s₁.setTop (mkF m 48 #[.val (.ref gA), .val (.int (own_ix i)), .val (.int (own_ix j)), .val (.int (g i)), .val (.int (g j))] [(.int (g 3))])) _
            refine XS.iload X0.here hx rfl (hb hby d6_48) rfl ?_
            show Steps p.tables e below (s₁.setTop (mkF m 50 #[.val (.ref gA), .val (.int (own_ix i)), .val (.int (own_ix j)), .val (.int (g i)), .val (.int (g j))] [(.int (g j)), (.int (g 3))])) _
            refine XS.icmpNo X0.here hx rfl (hb hby d6_50) rfl (teq (hz3 : (g 3) = (g j))).2 ?_
            show Steps p.tables e below (s₁.setTop (mkF m 53 #[.val (.ref gA), .val (.int (own_ix i)), .val (.int (own_ix j)), .val (.int (g i)), .val (.int (g j))] [])) _
            refine XS.aloadN X0.here hx rfl (hb hby d6_53) rfl rfl ?_
            show Steps p.tables e below (s₁.setTop (mkF m 54 #[.val (.ref gA), .val (.int (own_ix i)), .val (.int (own_ix j)), .val (.int (g i)), .val (.int (g j))] [(.ref gA)])) _
            refine XS.iconst X0.here hx rfl (hb hby d6_54) ?_
            show Steps p.tables e below (s₁.setTop (mkF m 55 #[.val (.ref gA), .val (.int (own_ix i)), .val (.int (own_ix j)), .val (.int (g i)), .val (.int (g j))] [(.int (3 : Int32)), (.ref gA)])) _
            refine XS.iloadN X0.here hx rfl (hb hby d6_55) rfl ?_
            show Steps p.tables e below (s₁.setTop (mkF m 56 #[.val (.ref gA), .val (.int (own_ix i)), .val (.int (own_ix j)), .val (.int (g i)), .val (.int (g j))] [(.int (g i)), (.int (3 : Int32)), (.ref gA)])) _
            refine st1070 _ ?_
            show Steps p.tables e below (T1070.setTop (mkF m 57 #[.val (.ref gA), .val (.int (own_ix i)), .val (.int (own_ix j)), .val (.int (g i)), .val (.int (g j))] [])) _
            exact X1070.returnOut hx Bd.returns (hb hby d6_57) hr
          · show Qown_join Z g gA kg i j h0 n0 _ T1070.heap _
            rw [e1070]
            refine ⟨rfl, N1070, K1070, ?_⟩
            rw [show own_jn g i j 0 = g 0 from if_neg hz0, show own_jn g i j 1 = g 1 from if_neg hz1, show own_jn g i j 2 = g 2 from if_neg hz2, show own_jn g i j 3 = g i from if_pos hz3]
            exact Vw1070
        · obtain ⟨fs, hr, hrun, hended, hW, hsame⟩ := X0.leave (v := none) (fun _ => rfl)
          refine ⟨_, _, pre0 _ ?_, hrun, hended, _, _, rfl, ?_, ⟨_, rfl⟩, hW, hsame.mono (by decide) (by decide)⟩
          · show Steps p.tables e below (s₁.setTop (mkF m 0 #[.val (.ref gA), .val (.int (own_ix i)), .val (.int (own_ix j)), .unset, .unset] [])) _
            refine XS.aloadN X0.here hx rfl (hb hby d6_0) rfl rfl ?_
            show Steps p.tables e below (s₁.setTop (mkF m 1 #[.val (.ref gA), .val (.int (own_ix i)), .val (.int (own_ix j)), .unset, .unset] [(.ref gA)])) _
            refine XS.iloadN X0.here hx rfl (hb hby d6_1) rfl ?_
            show Steps p.tables e below (s₁.setTop (mkF m 2 #[.val (.ref gA), .val (.int (own_ix i)), .val (.int (own_ix j)), .unset, .unset] [(.int (own_ix i)), (.ref gA)])) _
            refine X0.iaload hx (j := (own_ix i)) (v := (.int (g i))) (by rw [e0]; exact Ar1024.1) (State.isArrayOf_alike hZ.alike Ar1024.2.1) Ar1024.2.2 hin1024 hat1024 (g := (mkF m 2 #[.val (.ref gA), .val (.int (own_ix i)), .val (.int (own_ix j)), .unset, .unset] [(.int (own_ix i)), (.ref gA)])) rfl rfl (hb hby d6_2) _ ?_
            show Steps p.tables e below (s₁.setTop (mkF m 3 #[.val (.ref gA), .val (.int (own_ix i)), .val (.int (own_ix j)), .unset, .unset] [(.int (g i))])) _
            refine XS.istoreN X0.here hx rfl (hb hby d6_3) rfl (l' := #[.val (.ref gA), .val (.int (own_ix i)), .val (.int (own_ix j)), .val (.int (g i)), .unset]) rfl ?_
            show Steps p.tables e below (s₁.setTop (mkF m 4 #[.val (.ref gA), .val (.int (own_ix i)), .val (.int (own_ix j)), .val (.int (g i)), .unset] [])) _
            refine XS.aloadN X0.here hx rfl (hb hby d6_4) rfl rfl ?_
            show Steps p.tables e below (s₁.setTop (mkF m 5 #[.val (.ref gA), .val (.int (own_ix i)), .val (.int (own_ix j)), .val (.int (g i)), .unset] [(.ref gA)])) _
            refine XS.iloadN X0.here hx rfl (hb hby d6_5) rfl ?_
            show Steps p.tables e below (s₁.setTop (mkF m 6 #[.val (.ref gA), .val (.int (own_ix i)), .val (.int (own_ix j)), .val (.int (g i)), .unset] [(.int (own_ix j)), (.ref gA)])) _
            refine X0.iaload hx (j := (own_ix j)) (v := (.int (g j))) (by rw [e0]; exact Ar1025.1) (State.isArrayOf_alike hZ.alike Ar1025.2.1) Ar1025.2.2 hin1025 hat1025 (g := (mkF m 6 #[.val (.ref gA), .val (.int (own_ix i)), .val (.int (own_ix j)), .val (.int (g i)), .unset] [(.int (own_ix j)), (.ref gA)])) rfl rfl (hb hby d6_6) _ ?_
            show Steps p.tables e below (s₁.setTop (mkF m 7 #[.val (.ref gA), .val (.int (own_ix i)), .val (.int (own_ix j)), .val (.int (g i)), .unset] [(.int (g j))])) _
            refine XS.istore X0.here hx rfl (hb hby d6_7) rfl (l' := #[.val (.ref gA), .val (.int (own_ix i)), .val (.int (own_ix j)), .val (.int (g i)), .val (.int (g j))]) rfl ?_
            show Steps p.tables e below (s₁.setTop (mkF m 9 #[.val (.ref gA), .val (.int (own_ix i)), .val (.int (own_ix j)), .val (.int (g i)), .val (.int (g j))] [])) _
            refine XS.aloadN X0.here hx rfl (hb hby d6_9) rfl rfl ?_
            show Steps p.tables e below (s₁.setTop (mkF m 10 #[.val (.ref gA), .val (.int (own_ix i)), .val (.int (own_ix j)), .val (.int (g i)), .val (.int (g j))] [(.ref gA)])) _
            refine XS.iconst X0.here hx rfl (hb hby d6_10) ?_
            show Steps p.tables e below (s₁.setTop (mkF m 11 #[.val (.ref gA), .val (.int (own_ix i)), .val (.int (own_ix j)), .val (.int (g i)), .val (.int (g j))] [(.int (0 : Int32)), (.ref gA)])) _
            refine X0.iaload hx (j := (0 : Int32)) (v := (.int (g 0))) (by rw [e0]; exact Ar1026.1) (State.isArrayOf_alike hZ.alike Ar1026.2.1) Ar1026.2.2 hin1026 hat1026 (g := (mkF m 11 #[.val (.ref gA), .val (.int (own_ix i)), .val (.int (own_ix j)), .val (.int (g i)), .val (.int (g j))] [(.int (0 : Int32)), (.ref gA)])) rfl rfl (hb hby d6_11) _ ?_
            show Steps p.tables e below (s₁.setTop (mkF m 12 #[.val (.ref gA), .val (.int (own_ix i)), .val (.int (own_ix j)), .val (.int (g i)), .val (.int (g j))] [(.int (g 0))])) _
            refine XS.iload X0.here hx rfl (hb hby d6_12) rfl ?_
            show Steps p.tables e below (s₁.setTop (mkF m 14 #[.val (.ref gA), .val (.int (own_ix i)), .val (.int (own_ix j)), .val (.int (g i)), .val (.int (g j))] [(.int (g j)), (.int (g 0))])) _
            refine XS.icmpYes X0.here hx rfl (pc0 := 14) (pc' := 21) rfl (hb hby d6_14) rfl (feq (hz0 : ¬ ((g 0) = (g j)))).2 (by decide) (by decide) ?_
            show Steps p.tables e below (s₁.setTop (mkF m 21 #[.val (.ref gA), .val (.int (own_ix i)), .val (.int (own_ix j)), .val (.int (g i)), .val (.int (g j))] [])) _
            refine XS.aloadN X0.here hx rfl (hb hby d6_21) rfl rfl ?_
            show Steps p.tables e below (s₁.setTop (mkF m 22 #[.val (.ref gA), .val (.int (own_ix i)), .val (.int (own_ix j)), .val (.int (g i)), .val (.int (g j))] [(.ref gA)])) _
            refine XS.iconst X0.here hx rfl (hb hby d6_22) ?_
            show Steps p.tables e below (s₁.setTop (mkF m 23 #[.val (.ref gA), .val (.int (own_ix i)), .val (.int (own_ix j)), .val (.int (g i)), .val (.int (g j))] [(.int (1 : Int32)), (.ref gA)])) _
            refine X0.iaload hx (j := (1 : Int32)) (v := (.int (g 1))) (by rw [e0]; exact Ar1050.1) (State.isArrayOf_alike hZ.alike Ar1050.2.1) Ar1050.2.2 hin1050 hat1050 (g := (mkF m 23 #[.val (.ref gA), .val (.int (own_ix i)), .val (.int (own_ix j)), .val (.int (g i)), .val (.int (g j))] [(.int (1 : Int32)), (.ref gA)])) rfl rfl (hb hby d6_23) _ ?_
            show Steps p.tables e below (s₁.setTop (mkF m 24 #[.val (.ref gA), .val (.int (own_ix i)), .val (.int (own_ix j)), .val (.int (g i)), .val (.int (g j))] [(.int (g 1))])) _
            refine XS.iload X0.here hx rfl (hb hby d6_24) rfl ?_
            show Steps p.tables e below (s₁.setTop (mkF m 26 #[.val (.ref gA), .val (.int (own_ix i)), .val (.int (own_ix j)), .val (.int (g i)), .val (.int (g j))] [(.int (g j)), (.int (g 1))])) _
            refine XS.icmpYes X0.here hx rfl (pc0 := 26) (pc' := 33) rfl (hb hby d6_26) rfl (feq (hz1 : ¬ ((g 1) = (g j)))).2 (by decide) (by decide) ?_
            show Steps p.tables e below (s₁.setTop (mkF m 33 #[.val (.ref gA), .val (.int (own_ix i)), .val (.int (own_ix j)), .val (.int (g i)), .val (.int (g j))] [])) _
            refine XS.aloadN X0.here hx rfl (hb hby d6_33) rfl rfl ?_
            show Steps p.tables e below (s₁.setTop (mkF m 34 #[.val (.ref gA), .val (.int (own_ix i)), .val (.int (own_ix j)), .val (.int (g i)), .val (.int (g j))] [(.ref gA)])) _
            refine XS.iconst X0.here hx rfl (hb hby d6_34) ?_
            show Steps p.tables e below (s₁.setTop (mkF m 35 #[.val (.ref gA), .val (.int (own_ix i)), .val (.int (own_ix j)), .val (.int (g i)), .val (.int (g j))] [(.int (2 : Int32)), (.ref gA)])) _
            refine X0.iaload hx (j := (2 : Int32)) (v := (.int (g 2))) (by rw [e0]; exact Ar1062.1) (State.isArrayOf_alike hZ.alike Ar1062.2.1) Ar1062.2.2 hin1062 hat1062 (g := (mkF m 35 #[.val (.ref gA), .val (.int (own_ix i)), .val (.int (own_ix j)), .val (.int (g i)), .val (.int (g j))] [(.int (2 : Int32)), (.ref gA)])) rfl rfl (hb hby d6_35) _ ?_
            show Steps p.tables e below (s₁.setTop (mkF m 36 #[.val (.ref gA), .val (.int (own_ix i)), .val (.int (own_ix j)), .val (.int (g i)), .val (.int (g j))] [(.int (g 2))])) _
            refine XS.iload X0.here hx rfl (hb hby d6_36) rfl ?_
            show Steps p.tables e below (s₁.setTop (mkF m 38 #[.val (.ref gA), .val (.int (own_ix i)), .val (.int (own_ix j)), .val (.int (g i)), .val (.int (g j))] [(.int (g j)), (.int (g 2))])) _
            refine XS.icmpYes X0.here hx rfl (pc0 := 38) (pc' := 45) rfl (hb hby d6_38) rfl (feq (hz2 : ¬ ((g 2) = (g j)))).2 (by decide) (by decide) ?_
            show Steps p.tables e below (s₁.setTop (mkF m 45 #[.val (.ref gA), .val (.int (own_ix i)), .val (.int (own_ix j)), .val (.int (g i)), .val (.int (g j))] [])) _
            refine XS.aloadN X0.here hx rfl (hb hby d6_45) rfl rfl ?_
            show Steps p.tables e below (s₁.setTop (mkF m 46 #[.val (.ref gA), .val (.int (own_ix i)), .val (.int (own_ix j)), .val (.int (g i)), .val (.int (g j))] [(.ref gA)])) _
            refine XS.iconst X0.here hx rfl (hb hby d6_46) ?_
            show Steps p.tables e below (s₁.setTop (mkF m 47 #[.val (.ref gA), .val (.int (own_ix i)), .val (.int (own_ix j)), .val (.int (g i)), .val (.int (g j))] [(.int (3 : Int32)), (.ref gA)])) _
            refine X0.iaload hx (j := (3 : Int32)) (v := (.int (g 3))) (by rw [e0]; exact Ar1068.1) (State.isArrayOf_alike hZ.alike Ar1068.2.1) Ar1068.2.2 hin1068 hat1068 (g := (mkF m 47 #[.val (.ref gA), .val (.int (own_ix i)), .val (.int (own_ix j)), .val (.int (g i)), .val (.int (g j))] [(.int (3 : Int32)), (.ref gA)])) rfl rfl (hb hby d6_47) _ ?_
            show Steps p.tables e below (s₁.setTop (mkF m 48 #[.val (.ref gA), .val (.int (own_ix i)), .val (.int (own_ix j)), .val (.int (g i)), .val (.int (g j))] [(.int (g 3))])) _
            refine XS.iload X0.here hx rfl (hb hby d6_48) rfl ?_
            show Steps p.tables e below (s₁.setTop (mkF m 50 #[.val (.ref gA), .val (.int (own_ix i)), .val (.int (own_ix j)), .val (.int (g i)), .val (.int (g j))] [(.int (g j)), (.int (g 3))])) _
            refine XS.icmpYes X0.here hx rfl (pc0 := 50) (pc' := 57) rfl (hb hby d6_50) rfl (feq (hz3 : ¬ ((g 3) = (g j)))).2 (by decide) (by decide) ?_
            show Steps p.tables e below (s₁.setTop (mkF m 57 #[.val (.ref gA), .val (.int (own_ix i)), .val (.int (own_ix j)), .val (.int (g i)), .val (.int (g j))] [])) _
            exact X0.returnOut hx Bd.returns (hb hby d6_57) hr
          · show Qown_join Z g gA kg i j h0 n0 _ s₁.heap _
            rw [e0]
            refine ⟨rfl, N0, (Keep.refl h0 [gA]), ?_⟩
            rw [show own_jn g i j 0 = g 0 from if_neg hz0, show own_jn g i j 1 = g 1 from if_neg hz1, show own_jn g i j 2 = g 2 from if_neg hz2, show own_jn g i j 3 = g 3 from if_neg hz3]
            exact Vg
theorem pd_3 : parseMethodDescriptor "(Lcom/example/pentad/pentad/tx/TempId;)V" = some ⟨[(.object "com/example/pentad/pentad/tx/TempId")], none⟩ := by decide +kernel
theorem pd_4 : parseMethodDescriptor "([III)V" = some ⟨[(.array .int), .int, .int], none⟩ := by decide +kernel
set_option maxRecDepth 65536 in
set_option maxHeartbeats 40000000 in
theorem own_blk0 {p : Program} {l : Launch} {e : Env} {R : Room} {s : State} {m : MethodId} {args : Array Value} {below : List Frame} {meth : Method} {c : Code} {locs : List Loc} {cells slots : Nat} {Z : State} {a0 : Array Value} {h : Heap} {T : State} {n0 : Nat} (hw : ∀ d ∈ tables_1, d.before a0 Z = true) (t : Fin 4 → Addr) (ord : Fin 4 → Int32) (par rt : Fin 4 → Fin 4) (g : Fin 4 → Int32) (i0 i1 i2 i3 i4 i5 : Fin 4) (p1 p2 p3 p4 p5 nn : Int32) {tA gA oA : Addr} {kt kg ko : ClassId} (X : Stand p l e R s m args below meth c T locs cells slots) (hx : p.tables.exec = Jvm.exec) (hZ : Z.Warmed39 s.vm) (hby : c.code = code) (hml : c.maxLocals = 19) (hown : s.vm.findClass "com/example/pentad/pentad/tx/TempIdRootPinLaw" = some m.cls) (eT : T.heap = h) (O : Old Z n0 h) (N : Fr n0 locs) (F : own_For Z h t ord par) (I : own_Inv ord par rt) (inj : ∀ i j, t i = t j → i = j) (g0 : ∀ i, n0 ≤ t i) (injO : ∀ k l, ord k = ord l → k = l) (H : own_Cls g rt) (Vt : Arv Z h tA kt (.object "com/example/pentad/pentad/tx/TempId") (4 : Int32) [.ref (t 0), .ref (t 1), .ref (t 2), .ref (t 3)] .null) (Vg : Arv Z h gA kg .int (4 : Int32) [.int (g 0), .int (g 1), .int (g 2), .int (g 3)] (.int (0 : Int32))) (Vo : Arv Z h oA ko .int (4 : Int32) [.int (ord 0), .int (ord 1), .int (ord 2), .int (ord 3)] (.int (0 : Int32))) (net : ∀ i, tA ≠ t i) (neg : ∀ i, gA ≠ t i) (neo : ∀ i, oA ≠ t i) (netg : tA ≠ gA) (neog : oA ≠ gA) (ggA : n0 ≤ gA) (hrc : cells + 0 ≤ R.cells) (hrs : slots + 0 ≤ R.slots) (hrf : 3 ≤ R.frames) (hrl : 60 ≤ R.locals) : ∃ (T' : State) (L' : List Loc) (par' rt' : Fin 4 → Fin 4), Stand p l e R s m args below meth c T' L' cells slots ∧ Fr n0 L' ∧ Old Z n0 T'.heap ∧ own_For Z T'.heap t ord par' ∧ own_Inv ord par' rt' ∧ own_Cls (own_jn g i0 i1) rt' ∧ Arv Z T'.heap tA kt (.object "com/example/pentad/pentad/tx/TempId") (4 : Int32) [.ref (t 0), .ref (t 1), .ref (t 2), .ref (t 3)] .null ∧ Arv Z T'.heap gA kg .int (4 : Int32) [.int ((own_jn g i0 i1) 0), .int ((own_jn g i0 i1) 1), .int ((own_jn g i0 i1) 2), .int ((own_jn g i0 i1) 3)] (.int (0 : Int32)) ∧ Arv Z T'.heap oA ko .int (4 : Int32) [.int (ord 0), .int (ord 1), .int (ord 2), .int (ord 3)] (.int (0 : Int32)) ∧ ∀ target, Steps p.tables e below (T'.setTop (mkF m 210 #[.val (.int p1), .val (.int p2), .val (.int p3), .val (.int p4), .val (.int p5), .val (.ref oA), .val (.ref tA), .val (.ref gA), .val (.int (own_ix i0)), .val (.int (own_ix i1)), .val (.int (own_ix i2)), .val (.int (own_ix i3)), .val (.int (own_ix i4)), .val (.int (own_ix i5)), .val (.int nn), .unset, .unset, .unset, .unset] [])) target → Steps p.tables e below (T.setTop (mkF m 188 #[.val (.int p1), .val (.int p2), .val (.int p3), .val (.int p4), .val (.int p5), .val (.ref oA), .val (.ref tA), .val (.ref gA), .val (.int (own_ix i0)), .val (.int (own_ix i1)), .val (.int (own_ix i2)), .val (.int (own_ix i3)), .val (.int (own_ix i4)), .val (.int (own_ix i5)), .val (.int nn), .unset, .unset, .unset, .unset] [])) target := by
  obtain ⟨cl1071, Ar1071, q1071, S1071, M1071, Hs1071, G1071⟩ := id Vt
  have hin1071 : ¬ ((own_ix i0) < 0 ∨ cl1071.slots.size ≤ ((own_ix i0)).toNatClampNeg) := inb_of S1071 (own_ixb i0)
  have hat1071 : cl1071.slots[((own_ix i0)).toNatClampNeg]? = some (.ref (t i0)) := Has.at Hs1071 hin1071 (own_getR t i0 _)
  obtain ⟨cl1072, Ar1072, q1072, S1072, M1072, Hs1072, G1072⟩ := id Vt
  have hin1072 : ¬ ((own_ix i1) < 0 ∨ cl1072.slots.size ≤ ((own_ix i1)).toNatClampNeg) := inb_of S1072 (own_ixb i1)
  have hat1072 : cl1072.slots[((own_ix i1)).toNatClampNeg]? = some (.ref (t i1)) := Has.at Hs1072 hin1072 (own_getR t i1 _)
  obtain ⟨cqu, kqu, qua, qub, quc⟩ := isOf hZ eT (F.1 i0)
  obtain ⟨_, _, ⟨Tu, Lu, ku, nu⟩, -, Xu, ⟨Lcu, hQu, lu, yu, zu⟩, stu⟩ := X.virtualBack hx (y := (⟨"com/example/pentad/pentad/tx/TempId", "unite", "(Lcom/example/pentad/pentad/tx/TempId;)V"⟩ : MethodName)) (z := (⟨"com/example/pentad/pentad/tx/TempId", "unite", "(Lcom/example/pentad/pentad/tx/TempId;)V"⟩ : MethodName)) hown (mvT hZ (hw _ (List.mem_of_getElem? (i := 25) rfl))) (mvT hZ (hw _ (List.mem_of_getElem? (i := 26) rfl))) (notFace_of_selects (args := #[]) (mvT hZ (hw _ (List.mem_of_getElem? (i := 28) rfl)))) (mvT hZ (hw _ (List.mem_of_getElem? (i := 28) rfl))) (mvT hZ (hw _ (List.mem_of_getElem? (i := 27) rfl))) (by decide) (backOf (W := 0) (own_unite l Z a0 hw [] t ord par rt i0 i1 h n0 O F I inj g0 injO) hZ (hw _ (List.mem_of_getElem? (i := 29) rfl)) (hw _ (List.mem_of_getElem? (i := 4) rfl)) (Nat.le_trans (by decide) hrf) (Nat.le_trans (by decide) hrl)) qua quc (g := (mkF m 198 #[.val (.int p1), .val (.int p2), .val (.int p3), .val (.int p4), .val (.int p5), .val (.ref oA), .val (.ref tA), .val (.ref gA), .val (.int (own_ix i0)), .val (.int (own_ix i1)), .val (.int (own_ix i2)), .val (.int (own_ix i3)), .val (.int (own_ix i4)), .val (.int (own_ix i5)), .val (.int nn), .unset, .unset, .unset, .unset] [(.ref (t i1)), (.ref (t i0))])) rfl (by rw [hml]; rfl) (Steps.refl _) (argsL := [(.ref (t i1))]) (rest := []) (lenOf pd_3 rfl) rfl (by show 2 * 0 + _ ≤ _; exact Nat.le_of_eq rfl) (hb hby at_198) (fun _ _ => ⟨rfl, eT, (Nat.le_trans (by omega) hrc : cells + 0 ≤ R.cells), (Nat.le_trans (by omega) hrs : slots + 0 ≤ R.slots)⟩)
  dsimp only [Pt.U, Pt.locs, Pt.cells, Pt.slots] at Xu lu yu zu stu hQu
  subst lu
  rw [yu, zu] at Xu
  obtain ⟨rfl, Nqu, Ku, par', rt', F', I', H'⟩ := hQu
  have Ou : Old Z n0 Tu.heap := O.keep Ku (own_all g0)
  have Vg' := Vg.keep Ku (ninS (neg 0) (ninS (neg 1) (ninS (neg 2) (ninS (neg 3) nin0))))
  have Nu := Fr.app N Nqu
  obtain ⟨_, _, ⟨Tj, Lj, kj, nj⟩, -, Xj, ⟨Lcj, hQj, lj, yj, zj⟩, stj⟩ := Jvm.LawKit.callS Xu hx (y := (⟨"com/example/pentad/pentad/tx/TempIdRootPinLaw", "join", "([III)V"⟩ : MethodName)) hown (mvT hZ (hw _ (List.mem_of_getElem? (i := 31) rfl))) (mvT hZ (hw _ (List.mem_of_getElem? (i := 32) rfl))) (mvT hZ (hw _ (List.mem_of_getElem? (i := 23) rfl))) (mvT hZ (hw _ (List.mem_of_getElem? (i := 33) rfl))) (by decide) (backOf (W := 0) (own_join l Z a0 hw [] g gA kg i0 i1 Tu.heap n0 Ou Vg' ggA) hZ (hw _ (List.mem_of_getElem? (i := 33) rfl)) (hw _ (List.mem_of_getElem? (i := 23) rfl)) (Nat.le_trans (by decide) hrf) (Nat.le_trans (by decide) hrl)) (g := (mkF m 207 #[.val (.int p1), .val (.int p2), .val (.int p3), .val (.int p4), .val (.int p5), .val (.ref oA), .val (.ref tA), .val (.ref gA), .val (.int (own_ix i0)), .val (.int (own_ix i1)), .val (.int (own_ix i2)), .val (.int (own_ix i3)), .val (.int (own_ix i4)), .val (.int (own_ix i5)), .val (.int nn), .unset, .unset, .unset, .unset] [(.int (own_ix i1)), (.int (own_ix i0)), (.ref gA)])) rfl (by rw [hml]; rfl) (argsL := [(.ref gA), (.int (own_ix i0)), (.int (own_ix i1))]) (rest := []) (lenOf pd_4 rfl) rfl (by show 2 * 0 + _ ≤ _; exact Nat.le_of_eq rfl) (hb hby at_207) (fun _ _ => ⟨rfl, rfl, (Nat.le_trans (by omega) hrc : cells + 0 + 0 ≤ R.cells), (Nat.le_trans (by omega) hrs : slots + 0 + 0 ≤ R.slots)⟩)
  dsimp only [Pt.U, Pt.locs, Pt.cells, Pt.slots] at Xj lj yj zj stj hQj
  subst lj
  rw [yj, zj] at Xj
  obtain ⟨rfl, Nqj, Kj, Vg''⟩ := hQj
  have Oj : Old Z n0 Tj.heap := Ou.keep Kj (allS ggA all0)
  have Nj := Fr.app Nu Nqj
  refine ⟨Tj, _, par', rt', Xj.more (by omega) (by omega), Nj, Oj, own_For_keep F' Kj (fun i => ninS (Ne.symm (neg i)) nin0), I', H' _ H, ((Vt.keep Ku (ninS (net 0) (ninS (net 1) (ninS (net 2) (ninS (net 3) nin0))))).keep Kj (ninS netg nin0)), Vg'', ((Vo.keep Ku (ninS (neo 0) (ninS (neo 1) (ninS (neo 2) (ninS (neo 3) nin0))))).keep Kj (ninS neog nin0)), fun target kt => ?_⟩
  show Steps p.tables e below (T.setTop (mkF m 188 #[.val (.int p1), .val (.int p2), .val (.int p3), .val (.int p4), .val (.int p5), .val (.ref oA), .val (.ref tA), .val (.ref gA), .val (.int (own_ix i0)), .val (.int (own_ix i1)), .val (.int (own_ix i2)), .val (.int (own_ix i3)), .val (.int (own_ix i4)), .val (.int (own_ix i5)), .val (.int nn), .unset, .unset, .unset, .unset] [])) _
  refine XS.aload X.here hx rfl (hb hby at_188) rfl rfl ?_
  show Steps p.tables e below (T.setTop (mkF m 190 #[.val (.int p1), .val (.int p2), .val (.int p3), .val (.int p4), .val (.int p5), .val (.ref oA), .val (.ref tA), .val (.ref gA), .val (.int (own_ix i0)), .val (.int (own_ix i1)), .val (.int (own_ix i2)), .val (.int (own_ix i3)), .val (.int (own_ix i4)), .val (.int (own_ix i5)), .val (.int nn), .unset, .unset, .unset, .unset] [(.ref tA)])) _
  refine XS.iload X.here hx rfl (hb hby at_190) rfl ?_
  show Steps p.tables e below (T.setTop (mkF m 192 #[.val (.int p1), .val (.int p2), .val (.int p3), .val (.int p4), .val (.int p5), .val (.ref oA), .val (.ref tA), .val (.ref gA), .val (.int (own_ix i0)), .val (.int (own_ix i1)), .val (.int (own_ix i2)), .val (.int (own_ix i3)), .val (.int (own_ix i4)), .val (.int (own_ix i5)), .val (.int nn), .unset, .unset, .unset, .unset] [(.int (own_ix i0)), (.ref tA)])) _
  refine X.aaload hx (j := (own_ix i0)) (v := (.ref (t i0))) (by rw [eT]; exact Ar1071.1) (State.isArrayOf_alike hZ.alike Ar1071.2.1) rfl Ar1071.2.2 hin1071 hat1071 (g := (mkF m 192 #[.val (.int p1), .val (.int p2), .val (.int p3), .val (.int p4), .val (.int p5), .val (.ref oA), .val (.ref tA), .val (.ref gA), .val (.int (own_ix i0)), .val (.int (own_ix i1)), .val (.int (own_ix i2)), .val (.int (own_ix i3)), .val (.int (own_ix i4)), .val (.int (own_ix i5)), .val (.int nn), .unset, .unset, .unset, .unset] [(.int (own_ix i0)), (.ref tA)])) rfl rfl (hb hby at_192) _ ?_
  show Steps p.tables e below (T.setTop (mkF m 193 #[.val (.int p1), .val (.int p2), .val (.int p3), .val (.int p4), .val (.int p5), .val (.ref oA), .val (.ref tA), .val (.ref gA), .val (.int (own_ix i0)), .val (.int (own_ix i1)), .val (.int (own_ix i2)), .val (.int (own_ix i3)), .val (.int (own_ix i4)), .val (.int (own_ix i5)), .val (.int nn), .unset, .unset, .unset, .unset] [(.ref (t i0))])) _
  refine XS.aload X.here hx rfl (hb hby at_193) rfl rfl ?_
  show Steps p.tables e below (T.setTop (mkF m 195 #[.val (.int p1), .val (.int p2), .val (.int p3), .val (.int p4), .val (.int p5), .val (.ref oA), .val (.ref tA), .val (.ref gA), .val (.int (own_ix i0)), .val (.int (own_ix i1)), .val (.int (own_ix i2)), .val (.int (own_ix i3)), .val (.int (own_ix i4)), .val (.int (own_ix i5)), .val (.int nn), .unset, .unset, .unset, .unset] [(.ref tA), (.ref (t i0))])) _
  refine XS.iload X.here hx rfl (hb hby at_195) rfl ?_
  show Steps p.tables e below (T.setTop (mkF m 197 #[.val (.int p1), .val (.int p2), .val (.int p3), .val (.int p4), .val (.int p5), .val (.ref oA), .val (.ref tA), .val (.ref gA), .val (.int (own_ix i0)), .val (.int (own_ix i1)), .val (.int (own_ix i2)), .val (.int (own_ix i3)), .val (.int (own_ix i4)), .val (.int (own_ix i5)), .val (.int nn), .unset, .unset, .unset, .unset] [(.int (own_ix i1)), (.ref tA), (.ref (t i0))])) _
  refine X.aaload hx (j := (own_ix i1)) (v := (.ref (t i1))) (by rw [eT]; exact Ar1072.1) (State.isArrayOf_alike hZ.alike Ar1072.2.1) rfl Ar1072.2.2 hin1072 hat1072 (g := (mkF m 197 #[.val (.int p1), .val (.int p2), .val (.int p3), .val (.int p4), .val (.int p5), .val (.ref oA), .val (.ref tA), .val (.ref gA), .val (.int (own_ix i0)), .val (.int (own_ix i1)), .val (.int (own_ix i2)), .val (.int (own_ix i3)), .val (.int (own_ix i4)), .val (.int (own_ix i5)), .val (.int nn), .unset, .unset, .unset, .unset] [(.int (own_ix i1)), (.ref tA), (.ref (t i0))])) rfl rfl (hb hby at_197) _ ?_
  show Steps p.tables e below (T.setTop (mkF m 198 #[.val (.int p1), .val (.int p2), .val (.int p3), .val (.int p4), .val (.int p5), .val (.ref oA), .val (.ref tA), .val (.ref gA), .val (.int (own_ix i0)), .val (.int (own_ix i1)), .val (.int (own_ix i2)), .val (.int (own_ix i3)), .val (.int (own_ix i4)), .val (.int (own_ix i5)), .val (.int nn), .unset, .unset, .unset, .unset] [(.ref (t i1)), (.ref (t i0))])) _
  refine stu.trans ?_
  show Steps p.tables e below (Tu.setTop (mkF m 201 #[.val (.int p1), .val (.int p2), .val (.int p3), .val (.int p4), .val (.int p5), .val (.ref oA), .val (.ref tA), .val (.ref gA), .val (.int (own_ix i0)), .val (.int (own_ix i1)), .val (.int (own_ix i2)), .val (.int (own_ix i3)), .val (.int (own_ix i4)), .val (.int (own_ix i5)), .val (.int nn), .unset, .unset, .unset, .unset] [])) _
  refine XS.aload Xu.here hx rfl (hb hby at_201) rfl rfl ?_
  show Steps p.tables e below (Tu.setTop (mkF m 203 #[.val (.int p1), .val (.int p2), .val (.int p3), .val (.int p4), .val (.int p5), .val (.ref oA), .val (.ref tA), .val (.ref gA), .val (.int (own_ix i0)), .val (.int (own_ix i1)), .val (.int (own_ix i2)), .val (.int (own_ix i3)), .val (.int (own_ix i4)), .val (.int (own_ix i5)), .val (.int nn), .unset, .unset, .unset, .unset] [(.ref gA)])) _
  refine XS.iload Xu.here hx rfl (hb hby at_203) rfl ?_
  show Steps p.tables e below (Tu.setTop (mkF m 205 #[.val (.int p1), .val (.int p2), .val (.int p3), .val (.int p4), .val (.int p5), .val (.ref oA), .val (.ref tA), .val (.ref gA), .val (.int (own_ix i0)), .val (.int (own_ix i1)), .val (.int (own_ix i2)), .val (.int (own_ix i3)), .val (.int (own_ix i4)), .val (.int (own_ix i5)), .val (.int nn), .unset, .unset, .unset, .unset] [(.int (own_ix i0)), (.ref gA)])) _
  refine XS.iload Xu.here hx rfl (hb hby at_205) rfl ?_
  show Steps p.tables e below (Tu.setTop (mkF m 207 #[.val (.int p1), .val (.int p2), .val (.int p3), .val (.int p4), .val (.int p5), .val (.ref oA), .val (.ref tA), .val (.ref gA), .val (.int (own_ix i0)), .val (.int (own_ix i1)), .val (.int (own_ix i2)), .val (.int (own_ix i3)), .val (.int (own_ix i4)), .val (.int (own_ix i5)), .val (.int nn), .unset, .unset, .unset, .unset] [(.int (own_ix i1)), (.int (own_ix i0)), (.ref gA)])) _
  refine stj _ ?_
  exact kt
set_option maxRecDepth 65536 in
set_option maxHeartbeats 40000000 in
theorem own_blk1 {p : Program} {l : Launch} {e : Env} {R : Room} {s : State} {m : MethodId} {args : Array Value} {below : List Frame} {meth : Method} {c : Code} {locs : List Loc} {cells slots : Nat} {Z : State} {a0 : Array Value} {h : Heap} {T : State} {n0 : Nat} (hw : ∀ d ∈ tables_1, d.before a0 Z = true) (t : Fin 4 → Addr) (ord : Fin 4 → Int32) (par rt : Fin 4 → Fin 4) (g : Fin 4 → Int32) (i0 i1 i2 i3 i4 i5 : Fin 4) (p1 p2 p3 p4 p5 nn : Int32) {tA gA oA : Addr} {kt kg ko : ClassId} (X : Stand p l e R s m args below meth c T locs cells slots) (hx : p.tables.exec = Jvm.exec) (hZ : Z.Warmed39 s.vm) (hby : c.code = code) (hml : c.maxLocals = 19) (hown : s.vm.findClass "com/example/pentad/pentad/tx/TempIdRootPinLaw" = some m.cls) (eT : T.heap = h) (O : Old Z n0 h) (N : Fr n0 locs) (F : own_For Z h t ord par) (I : own_Inv ord par rt) (inj : ∀ i j, t i = t j → i = j) (g0 : ∀ i, n0 ≤ t i) (injO : ∀ k l, ord k = ord l → k = l) (H : own_Cls g rt) (Vt : Arv Z h tA kt (.object "com/example/pentad/pentad/tx/TempId") (4 : Int32) [.ref (t 0), .ref (t 1), .ref (t 2), .ref (t 3)] .null) (Vg : Arv Z h gA kg .int (4 : Int32) [.int (g 0), .int (g 1), .int (g 2), .int (g 3)] (.int (0 : Int32))) (Vo : Arv Z h oA ko .int (4 : Int32) [.int (ord 0), .int (ord 1), .int (ord 2), .int (ord 3)] (.int (0 : Int32))) (net : ∀ i, tA ≠ t i) (neg : ∀ i, gA ≠ t i) (neo : ∀ i, oA ≠ t i) (netg : tA ≠ gA) (neog : oA ≠ gA) (ggA : n0 ≤ gA) (hrc : cells + 0 ≤ R.cells) (hrs : slots + 0 ≤ R.slots) (hrf : 3 ≤ R.frames) (hrl : 60 ≤ R.locals) : ∃ (T' : State) (L' : List Loc) (par' rt' : Fin 4 → Fin 4), Stand p l e R s m args below meth c T' L' cells slots ∧ Fr n0 L' ∧ Old Z n0 T'.heap ∧ own_For Z T'.heap t ord par' ∧ own_Inv ord par' rt' ∧ own_Cls (own_jn g i2 i3) rt' ∧ Arv Z T'.heap tA kt (.object "com/example/pentad/pentad/tx/TempId") (4 : Int32) [.ref (t 0), .ref (t 1), .ref (t 2), .ref (t 3)] .null ∧ Arv Z T'.heap gA kg .int (4 : Int32) [.int ((own_jn g i2 i3) 0), .int ((own_jn g i2 i3) 1), .int ((own_jn g i2 i3) 2), .int ((own_jn g i2 i3) 3)] (.int (0 : Int32)) ∧ Arv Z T'.heap oA ko .int (4 : Int32) [.int (ord 0), .int (ord 1), .int (ord 2), .int (ord 3)] (.int (0 : Int32)) ∧ ∀ target, Steps p.tables e below (T'.setTop (mkF m 238 #[.val (.int p1), .val (.int p2), .val (.int p3), .val (.int p4), .val (.int p5), .val (.ref oA), .val (.ref tA), .val (.ref gA), .val (.int (own_ix i0)), .val (.int (own_ix i1)), .val (.int (own_ix i2)), .val (.int (own_ix i3)), .val (.int (own_ix i4)), .val (.int (own_ix i5)), .val (.int nn), .unset, .unset, .unset, .unset] [])) target → Steps p.tables e below (T.setTop (mkF m 216 #[.val (.int p1), .val (.int p2), .val (.int p3), .val (.int p4), .val (.int p5), .val (.ref oA), .val (.ref tA), .val (.ref gA), .val (.int (own_ix i0)), .val (.int (own_ix i1)), .val (.int (own_ix i2)), .val (.int (own_ix i3)), .val (.int (own_ix i4)), .val (.int (own_ix i5)), .val (.int nn), .unset, .unset, .unset, .unset] [])) target := by
  obtain ⟨cl1073, Ar1073, q1073, S1073, M1073, Hs1073, G1073⟩ := id Vt
  have hin1073 : ¬ ((own_ix i2) < 0 ∨ cl1073.slots.size ≤ ((own_ix i2)).toNatClampNeg) := inb_of S1073 (own_ixb i2)
  have hat1073 : cl1073.slots[((own_ix i2)).toNatClampNeg]? = some (.ref (t i2)) := Has.at Hs1073 hin1073 (own_getR t i2 _)
  obtain ⟨cl1074, Ar1074, q1074, S1074, M1074, Hs1074, G1074⟩ := id Vt
  have hin1074 : ¬ ((own_ix i3) < 0 ∨ cl1074.slots.size ≤ ((own_ix i3)).toNatClampNeg) := inb_of S1074 (own_ixb i3)
  have hat1074 : cl1074.slots[((own_ix i3)).toNatClampNeg]? = some (.ref (t i3)) := Has.at Hs1074 hin1074 (own_getR t i3 _)
  obtain ⟨cqu, kqu, qua, qub, quc⟩ := isOf hZ eT (F.1 i2)
  obtain ⟨_, _, ⟨Tu, Lu, ku, nu⟩, -, Xu, ⟨Lcu, hQu, lu, yu, zu⟩, stu⟩ := X.virtualBack hx (y := (⟨"com/example/pentad/pentad/tx/TempId", "unite", "(Lcom/example/pentad/pentad/tx/TempId;)V"⟩ : MethodName)) (z := (⟨"com/example/pentad/pentad/tx/TempId", "unite", "(Lcom/example/pentad/pentad/tx/TempId;)V"⟩ : MethodName)) hown (mvT hZ (hw _ (List.mem_of_getElem? (i := 25) rfl))) (mvT hZ (hw _ (List.mem_of_getElem? (i := 26) rfl))) (notFace_of_selects (args := #[]) (mvT hZ (hw _ (List.mem_of_getElem? (i := 28) rfl)))) (mvT hZ (hw _ (List.mem_of_getElem? (i := 28) rfl))) (mvT hZ (hw _ (List.mem_of_getElem? (i := 27) rfl))) (by decide) (backOf (W := 0) (own_unite l Z a0 hw [] t ord par rt i2 i3 h n0 O F I inj g0 injO) hZ (hw _ (List.mem_of_getElem? (i := 29) rfl)) (hw _ (List.mem_of_getElem? (i := 4) rfl)) (Nat.le_trans (by decide) hrf) (Nat.le_trans (by decide) hrl)) qua quc (g := (mkF m 226 #[.val (.int p1), .val (.int p2), .val (.int p3), .val (.int p4), .val (.int p5), .val (.ref oA), .val (.ref tA), .val (.ref gA), .val (.int (own_ix i0)), .val (.int (own_ix i1)), .val (.int (own_ix i2)), .val (.int (own_ix i3)), .val (.int (own_ix i4)), .val (.int (own_ix i5)), .val (.int nn), .unset, .unset, .unset, .unset] [(.ref (t i3)), (.ref (t i2))])) rfl (by rw [hml]; rfl) (Steps.refl _) (argsL := [(.ref (t i3))]) (rest := []) (lenOf pd_3 rfl) rfl (by show 2 * 0 + _ ≤ _; exact Nat.le_of_eq rfl) (hb hby at_226) (fun _ _ => ⟨rfl, eT, (Nat.le_trans (by omega) hrc : cells + 0 ≤ R.cells), (Nat.le_trans (by omega) hrs : slots + 0 ≤ R.slots)⟩)
  dsimp only [Pt.U, Pt.locs, Pt.cells, Pt.slots] at Xu lu yu zu stu hQu
  subst lu
  rw [yu, zu] at Xu
  obtain ⟨rfl, Nqu, Ku, par', rt', F', I', H'⟩ := hQu
  have Ou : Old Z n0 Tu.heap := O.keep Ku (own_all g0)
  have Vg' := Vg.keep Ku (ninS (neg 0) (ninS (neg 1) (ninS (neg 2) (ninS (neg 3) nin0))))
  have Nu := Fr.app N Nqu
  obtain ⟨_, _, ⟨Tj, Lj, kj, nj⟩, -, Xj, ⟨Lcj, hQj, lj, yj, zj⟩, stj⟩ := Jvm.LawKit.callS Xu hx (y := (⟨"com/example/pentad/pentad/tx/TempIdRootPinLaw", "join", "([III)V"⟩ : MethodName)) hown (mvT hZ (hw _ (List.mem_of_getElem? (i := 31) rfl))) (mvT hZ (hw _ (List.mem_of_getElem? (i := 32) rfl))) (mvT hZ (hw _ (List.mem_of_getElem? (i := 23) rfl))) (mvT hZ (hw _ (List.mem_of_getElem? (i := 33) rfl))) (by decide) (backOf (W := 0) (own_join l Z a0 hw [] g gA kg i2 i3 Tu.heap n0 Ou Vg' ggA) hZ (hw _ (List.mem_of_getElem? (i := 33) rfl)) (hw _ (List.mem_of_getElem? (i := 23) rfl)) (Nat.le_trans (by decide) hrf) (Nat.le_trans (by decide) hrl)) (g := (mkF m 235 #[.val (.int p1), .val (.int p2), .val (.int p3), .val (.int p4), .val (.int p5), .val (.ref oA), .val (.ref tA), .val (.ref gA), .val (.int (own_ix i0)), .val (.int (own_ix i1)), .val (.int (own_ix i2)), .val (.int (own_ix i3)), .val (.int (own_ix i4)), .val (.int (own_ix i5)), .val (.int nn), .unset, .unset, .unset, .unset] [(.int (own_ix i3)), (.int (own_ix i2)), (.ref gA)])) rfl (by rw [hml]; rfl) (argsL := [(.ref gA), (.int (own_ix i2)), (.int (own_ix i3))]) (rest := []) (lenOf pd_4 rfl) rfl (by show 2 * 0 + _ ≤ _; exact Nat.le_of_eq rfl) (hb hby at_235) (fun _ _ => ⟨rfl, rfl, (Nat.le_trans (by omega) hrc : cells + 0 + 0 ≤ R.cells), (Nat.le_trans (by omega) hrs : slots + 0 + 0 ≤ R.slots)⟩)
  dsimp only [Pt.U, Pt.locs, Pt.cells, Pt.slots] at Xj lj yj zj stj hQj
  subst lj
  rw [yj, zj] at Xj
  obtain ⟨rfl, Nqj, Kj, Vg''⟩ := hQj
  have Oj : Old Z n0 Tj.heap := Ou.keep Kj (allS ggA all0)
  have Nj := Fr.app Nu Nqj
  refine ⟨Tj, _, par', rt', Xj.more (by omega) (by omega), Nj, Oj, own_For_keep F' Kj (fun i => ninS (Ne.symm (neg i)) nin0), I', H' _ H, ((Vt.keep Ku (ninS (net 0) (ninS (net 1) (ninS (net 2) (ninS (net 3) nin0))))).keep Kj (ninS netg nin0)), Vg'', ((Vo.keep Ku (ninS (neo 0) (ninS (neo 1) (ninS (neo 2) (ninS (neo 3) nin0))))).keep Kj (ninS neog nin0)), fun target kt => ?_⟩
  show Steps p.tables e below (T.setTop (mkF m 216 #[.val (.int p1), .val (.int p2), .val (.int p3), .val (.int p4), .val (.int p5), .val (.ref oA), .val (.ref tA), .val (.ref gA), .val (.int (own_ix i0)), .val (.int (own_ix i1)), .val (.int (own_ix i2)), .val (.int (own_ix i3)), .val (.int (own_ix i4)), .val (.int (own_ix i5)), .val (.int nn), .unset, .unset, .unset, .unset] [])) _
  refine XS.aload X.here hx rfl (hb hby at_216) rfl rfl ?_
  show Steps p.tables e below (T.setTop (mkF m 218 #[.val (.int p1), .val (.int p2), .val (.int p3), .val (.int p4), .val (.int p5), .val (.ref oA), .val (.ref tA), .val (.ref gA), .val (.int (own_ix i0)), .val (.int (own_ix i1)), .val (.int (own_ix i2)), .val (.int (own_ix i3)), .val (.int (own_ix i4)), .val (.int (own_ix i5)), .val (.int nn), .unset, .unset, .unset, .unset] [(.ref tA)])) _
  refine XS.iload X.here hx rfl (hb hby at_218) rfl ?_
  show Steps p.tables e below (T.setTop (mkF m 220 #[.val (.int p1), .val (.int p2), .val (.int p3), .val (.int p4), .val (.int p5), .val (.ref oA), .val (.ref tA), .val (.ref gA), .val (.int (own_ix i0)), .val (.int (own_ix i1)), .val (.int (own_ix i2)), .val (.int (own_ix i3)), .val (.int (own_ix i4)), .val (.int (own_ix i5)), .val (.int nn), .unset, .unset, .unset, .unset] [(.int (own_ix i2)), (.ref tA)])) _
  refine X.aaload hx (j := (own_ix i2)) (v := (.ref (t i2))) (by rw [eT]; exact Ar1073.1) (State.isArrayOf_alike hZ.alike Ar1073.2.1) rfl Ar1073.2.2 hin1073 hat1073 (g := (mkF m 220 #[.val (.int p1), .val (.int p2), .val (.int p3), .val (.int p4), .val (.int p5), .val (.ref oA), .val (.ref tA), .val (.ref gA), .val (.int (own_ix i0)), .val (.int (own_ix i1)), .val (.int (own_ix i2)), .val (.int (own_ix i3)), .val (.int (own_ix i4)), .val (.int (own_ix i5)), .val (.int nn), .unset, .unset, .unset, .unset] [(.int (own_ix i2)), (.ref tA)])) rfl rfl (hb hby at_220) _ ?_
  show Steps p.tables e below (T.setTop (mkF m 221 #[.val (.int p1), .val (.int p2), .val (.int p3), .val (.int p4), .val (.int p5), .val (.ref oA), .val (.ref tA), .val (.ref gA), .val (.int (own_ix i0)), .val (.int (own_ix i1)), .val (.int (own_ix i2)), .val (.int (own_ix i3)), .val (.int (own_ix i4)), .val (.int (own_ix i5)), .val (.int nn), .unset, .unset, .unset, .unset] [(.ref (t i2))])) _
  refine XS.aload X.here hx rfl (hb hby at_221) rfl rfl ?_
  show Steps p.tables e below (T.setTop (mkF m 223 #[.val (.int p1), .val (.int p2), .val (.int p3), .val (.int p4), .val (.int p5), .val (.ref oA), .val (.ref tA), .val (.ref gA), .val (.int (own_ix i0)), .val (.int (own_ix i1)), .val (.int (own_ix i2)), .val (.int (own_ix i3)), .val (.int (own_ix i4)), .val (.int (own_ix i5)), .val (.int nn), .unset, .unset, .unset, .unset] [(.ref tA), (.ref (t i2))])) _
  refine XS.iload X.here hx rfl (hb hby at_223) rfl ?_
  show Steps p.tables e below (T.setTop (mkF m 225 #[.val (.int p1), .val (.int p2), .val (.int p3), .val (.int p4), .val (.int p5), .val (.ref oA), .val (.ref tA), .val (.ref gA), .val (.int (own_ix i0)), .val (.int (own_ix i1)), .val (.int (own_ix i2)), .val (.int (own_ix i3)), .val (.int (own_ix i4)), .val (.int (own_ix i5)), .val (.int nn), .unset, .unset, .unset, .unset] [(.int (own_ix i3)), (.ref tA), (.ref (t i2))])) _
  refine X.aaload hx (j := (own_ix i3)) (v := (.ref (t i3))) (by rw [eT]; exact Ar1074.1) (State.isArrayOf_alike hZ.alike Ar1074.2.1) rfl Ar1074.2.2 hin1074 hat1074 (g := (mkF m 225 #[.val (.int p1), .val (.int p2), .val (.int p3), .val (.int p4), .val (.int p5), .val (.ref oA), .val (.ref tA), .val (.ref gA), .val (.int (own_ix i0)), .val (.int (own_ix i1)), .val (.int (own_ix i2)), .val (.int (own_ix i3)), .val (.int (own_ix i4)), .val (.int (own_ix i5)), .val (.int nn), .unset, .unset, .unset, .unset] [(.int (own_ix i3)), (.ref tA), (.ref (t i2))])) rfl rfl (hb hby at_225) _ ?_
  show Steps p.tables e below (T.setTop (mkF m 226 #[.val (.int p1), .val (.int p2), .val (.int p3), .val (.int p4), .val (.int p5), .val (.ref oA), .val (.ref tA), .val (.ref gA), .val (.int (own_ix i0)), .val (.int (own_ix i1)), .val (.int (own_ix i2)), .val (.int (own_ix i3)), .val (.int (own_ix i4)), .val (.int (own_ix i5)), .val (.int nn), .unset, .unset, .unset, .unset] [(.ref (t i3)), (.ref (t i2))])) _
  refine stu.trans ?_
  show Steps p.tables e below (Tu.setTop (mkF m 229 #[.val (.int p1), .val (.int p2), .val (.int p3), .val (.int p4), .val (.int p5), .val (.ref oA), .val (.ref tA), .val (.ref gA), .val (.int (own_ix i0)), .val (.int (own_ix i1)), .val (.int (own_ix i2)), .val (.int (own_ix i3)), .val (.int (own_ix i4)), .val (.int (own_ix i5)), .val (.int nn), .unset, .unset, .unset, .unset] [])) _
  refine XS.aload Xu.here hx rfl (hb hby at_229) rfl rfl ?_
  show Steps p.tables e below (Tu.setTop (mkF m 231 #[.val (.int p1), .val (.int p2), .val (.int p3), .val (.int p4), .val (.int p5), .val (.ref oA), .val (.ref tA), .val (.ref gA), .val (.int (own_ix i0)), .val (.int (own_ix i1)), .val (.int (own_ix i2)), .val (.int (own_ix i3)), .val (.int (own_ix i4)), .val (.int (own_ix i5)), .val (.int nn), .unset, .unset, .unset, .unset] [(.ref gA)])) _
  refine XS.iload Xu.here hx rfl (hb hby at_231) rfl ?_
  show Steps p.tables e below (Tu.setTop (mkF m 233 #[.val (.int p1), .val (.int p2), .val (.int p3), .val (.int p4), .val (.int p5), .val (.ref oA), .val (.ref tA), .val (.ref gA), .val (.int (own_ix i0)), .val (.int (own_ix i1)), .val (.int (own_ix i2)), .val (.int (own_ix i3)), .val (.int (own_ix i4)), .val (.int (own_ix i5)), .val (.int nn), .unset, .unset, .unset, .unset] [(.int (own_ix i2)), (.ref gA)])) _
  refine XS.iload Xu.here hx rfl (hb hby at_233) rfl ?_
  show Steps p.tables e below (Tu.setTop (mkF m 235 #[.val (.int p1), .val (.int p2), .val (.int p3), .val (.int p4), .val (.int p5), .val (.ref oA), .val (.ref tA), .val (.ref gA), .val (.int (own_ix i0)), .val (.int (own_ix i1)), .val (.int (own_ix i2)), .val (.int (own_ix i3)), .val (.int (own_ix i4)), .val (.int (own_ix i5)), .val (.int nn), .unset, .unset, .unset, .unset] [(.int (own_ix i3)), (.int (own_ix i2)), (.ref gA)])) _
  refine stj _ ?_
  exact kt
set_option maxRecDepth 65536 in
set_option maxHeartbeats 40000000 in
theorem own_blk2 {p : Program} {l : Launch} {e : Env} {R : Room} {s : State} {m : MethodId} {args : Array Value} {below : List Frame} {meth : Method} {c : Code} {locs : List Loc} {cells slots : Nat} {Z : State} {a0 : Array Value} {h : Heap} {T : State} {n0 : Nat} (hw : ∀ d ∈ tables_1, d.before a0 Z = true) (t : Fin 4 → Addr) (ord : Fin 4 → Int32) (par rt : Fin 4 → Fin 4) (g : Fin 4 → Int32) (i0 i1 i2 i3 i4 i5 : Fin 4) (p1 p2 p3 p4 p5 nn : Int32) {tA gA oA : Addr} {kt kg ko : ClassId} (X : Stand p l e R s m args below meth c T locs cells slots) (hx : p.tables.exec = Jvm.exec) (hZ : Z.Warmed39 s.vm) (hby : c.code = code) (hml : c.maxLocals = 19) (hown : s.vm.findClass "com/example/pentad/pentad/tx/TempIdRootPinLaw" = some m.cls) (eT : T.heap = h) (O : Old Z n0 h) (N : Fr n0 locs) (F : own_For Z h t ord par) (I : own_Inv ord par rt) (inj : ∀ i j, t i = t j → i = j) (g0 : ∀ i, n0 ≤ t i) (injO : ∀ k l, ord k = ord l → k = l) (H : own_Cls g rt) (Vt : Arv Z h tA kt (.object "com/example/pentad/pentad/tx/TempId") (4 : Int32) [.ref (t 0), .ref (t 1), .ref (t 2), .ref (t 3)] .null) (Vg : Arv Z h gA kg .int (4 : Int32) [.int (g 0), .int (g 1), .int (g 2), .int (g 3)] (.int (0 : Int32))) (Vo : Arv Z h oA ko .int (4 : Int32) [.int (ord 0), .int (ord 1), .int (ord 2), .int (ord 3)] (.int (0 : Int32))) (net : ∀ i, tA ≠ t i) (neg : ∀ i, gA ≠ t i) (neo : ∀ i, oA ≠ t i) (netg : tA ≠ gA) (neog : oA ≠ gA) (ggA : n0 ≤ gA) (hrc : cells + 0 ≤ R.cells) (hrs : slots + 0 ≤ R.slots) (hrf : 3 ≤ R.frames) (hrl : 60 ≤ R.locals) : ∃ (T' : State) (L' : List Loc) (par' rt' : Fin 4 → Fin 4), Stand p l e R s m args below meth c T' L' cells slots ∧ Fr n0 L' ∧ Old Z n0 T'.heap ∧ own_For Z T'.heap t ord par' ∧ own_Inv ord par' rt' ∧ own_Cls (own_jn g i4 i5) rt' ∧ Arv Z T'.heap tA kt (.object "com/example/pentad/pentad/tx/TempId") (4 : Int32) [.ref (t 0), .ref (t 1), .ref (t 2), .ref (t 3)] .null ∧ Arv Z T'.heap gA kg .int (4 : Int32) [.int ((own_jn g i4 i5) 0), .int ((own_jn g i4 i5) 1), .int ((own_jn g i4 i5) 2), .int ((own_jn g i4 i5) 3)] (.int (0 : Int32)) ∧ Arv Z T'.heap oA ko .int (4 : Int32) [.int (ord 0), .int (ord 1), .int (ord 2), .int (ord 3)] (.int (0 : Int32)) ∧ ∀ target, Steps p.tables e below (T'.setTop (mkF m 266 #[.val (.int p1), .val (.int p2), .val (.int p3), .val (.int p4), .val (.int p5), .val (.ref oA), .val (.ref tA), .val (.ref gA), .val (.int (own_ix i0)), .val (.int (own_ix i1)), .val (.int (own_ix i2)), .val (.int (own_ix i3)), .val (.int (own_ix i4)), .val (.int (own_ix i5)), .val (.int nn), .unset, .unset, .unset, .unset] [])) target → Steps p.tables e below (T.setTop (mkF m 244 #[.val (.int p1), .val (.int p2), .val (.int p3), .val (.int p4), .val (.int p5), .val (.ref oA), .val (.ref tA), .val (.ref gA), .val (.int (own_ix i0)), .val (.int (own_ix i1)), .val (.int (own_ix i2)), .val (.int (own_ix i3)), .val (.int (own_ix i4)), .val (.int (own_ix i5)), .val (.int nn), .unset, .unset, .unset, .unset] [])) target := by
  obtain ⟨cl1075, Ar1075, q1075, S1075, M1075, Hs1075, G1075⟩ := id Vt
  have hin1075 : ¬ ((own_ix i4) < 0 ∨ cl1075.slots.size ≤ ((own_ix i4)).toNatClampNeg) := inb_of S1075 (own_ixb i4)
  have hat1075 : cl1075.slots[((own_ix i4)).toNatClampNeg]? = some (.ref (t i4)) := Has.at Hs1075 hin1075 (own_getR t i4 _)
  obtain ⟨cl1076, Ar1076, q1076, S1076, M1076, Hs1076, G1076⟩ := id Vt
  have hin1076 : ¬ ((own_ix i5) < 0 ∨ cl1076.slots.size ≤ ((own_ix i5)).toNatClampNeg) := inb_of S1076 (own_ixb i5)
  have hat1076 : cl1076.slots[((own_ix i5)).toNatClampNeg]? = some (.ref (t i5)) := Has.at Hs1076 hin1076 (own_getR t i5 _)
  obtain ⟨cqu, kqu, qua, qub, quc⟩ := isOf hZ eT (F.1 i4)
  obtain ⟨_, _, ⟨Tu, Lu, ku, nu⟩, -, Xu, ⟨Lcu, hQu, lu, yu, zu⟩, stu⟩ := X.virtualBack hx (y := (⟨"com/example/pentad/pentad/tx/TempId", "unite", "(Lcom/example/pentad/pentad/tx/TempId;)V"⟩ : MethodName)) (z := (⟨"com/example/pentad/pentad/tx/TempId", "unite", "(Lcom/example/pentad/pentad/tx/TempId;)V"⟩ : MethodName)) hown (mvT hZ (hw _ (List.mem_of_getElem? (i := 25) rfl))) (mvT hZ (hw _ (List.mem_of_getElem? (i := 26) rfl))) (notFace_of_selects (args := #[]) (mvT hZ (hw _ (List.mem_of_getElem? (i := 28) rfl)))) (mvT hZ (hw _ (List.mem_of_getElem? (i := 28) rfl))) (mvT hZ (hw _ (List.mem_of_getElem? (i := 27) rfl))) (by decide) (backOf (W := 0) (own_unite l Z a0 hw [] t ord par rt i4 i5 h n0 O F I inj g0 injO) hZ (hw _ (List.mem_of_getElem? (i := 29) rfl)) (hw _ (List.mem_of_getElem? (i := 4) rfl)) (Nat.le_trans (by decide) hrf) (Nat.le_trans (by decide) hrl)) qua quc (g := (mkF m 254 #[.val (.int p1), .val (.int p2), .val (.int p3), .val (.int p4), .val (.int p5), .val (.ref oA), .val (.ref tA), .val (.ref gA), .val (.int (own_ix i0)), .val (.int (own_ix i1)), .val (.int (own_ix i2)), .val (.int (own_ix i3)), .val (.int (own_ix i4)), .val (.int (own_ix i5)), .val (.int nn), .unset, .unset, .unset, .unset] [(.ref (t i5)), (.ref (t i4))])) rfl (by rw [hml]; rfl) (Steps.refl _) (argsL := [(.ref (t i5))]) (rest := []) (lenOf pd_3 rfl) rfl (by show 2 * 0 + _ ≤ _; exact Nat.le_of_eq rfl) (hb hby at_254) (fun _ _ => ⟨rfl, eT, (Nat.le_trans (by omega) hrc : cells + 0 ≤ R.cells), (Nat.le_trans (by omega) hrs : slots + 0 ≤ R.slots)⟩)
  dsimp only [Pt.U, Pt.locs, Pt.cells, Pt.slots] at Xu lu yu zu stu hQu
  subst lu
  rw [yu, zu] at Xu
  obtain ⟨rfl, Nqu, Ku, par', rt', F', I', H'⟩ := hQu
  have Ou : Old Z n0 Tu.heap := O.keep Ku (own_all g0)
  have Vg' := Vg.keep Ku (ninS (neg 0) (ninS (neg 1) (ninS (neg 2) (ninS (neg 3) nin0))))
  have Nu := Fr.app N Nqu
  obtain ⟨_, _, ⟨Tj, Lj, kj, nj⟩, -, Xj, ⟨Lcj, hQj, lj, yj, zj⟩, stj⟩ := Jvm.LawKit.callS Xu hx (y := (⟨"com/example/pentad/pentad/tx/TempIdRootPinLaw", "join", "([III)V"⟩ : MethodName)) hown (mvT hZ (hw _ (List.mem_of_getElem? (i := 31) rfl))) (mvT hZ (hw _ (List.mem_of_getElem? (i := 32) rfl))) (mvT hZ (hw _ (List.mem_of_getElem? (i := 23) rfl))) (mvT hZ (hw _ (List.mem_of_getElem? (i := 33) rfl))) (by decide) (backOf (W := 0) (own_join l Z a0 hw [] g gA kg i4 i5 Tu.heap n0 Ou Vg' ggA) hZ (hw _ (List.mem_of_getElem? (i := 33) rfl)) (hw _ (List.mem_of_getElem? (i := 23) rfl)) (Nat.le_trans (by decide) hrf) (Nat.le_trans (by decide) hrl)) (g := (mkF m 263 #[.val (.int p1), .val (.int p2), .val (.int p3), .val (.int p4), .val (.int p5), .val (.ref oA), .val (.ref tA), .val (.ref gA), .val (.int (own_ix i0)), .val (.int (own_ix i1)), .val (.int (own_ix i2)), .val (.int (own_ix i3)), .val (.int (own_ix i4)), .val (.int (own_ix i5)), .val (.int nn), .unset, .unset, .unset, .unset] [(.int (own_ix i5)), (.int (own_ix i4)), (.ref gA)])) rfl (by rw [hml]; rfl) (argsL := [(.ref gA), (.int (own_ix i4)), (.int (own_ix i5))]) (rest := []) (lenOf pd_4 rfl) rfl (by show 2 * 0 + _ ≤ _; exact Nat.le_of_eq rfl) (hb hby at_263) (fun _ _ => ⟨rfl, rfl, (Nat.le_trans (by omega) hrc : cells + 0 + 0 ≤ R.cells), (Nat.le_trans (by omega) hrs : slots + 0 + 0 ≤ R.slots)⟩)
  dsimp only [Pt.U, Pt.locs, Pt.cells, Pt.slots] at Xj lj yj zj stj hQj
  subst lj
  rw [yj, zj] at Xj
  obtain ⟨rfl, Nqj, Kj, Vg''⟩ := hQj
  have Oj : Old Z n0 Tj.heap := Ou.keep Kj (allS ggA all0)
  have Nj := Fr.app Nu Nqj
  refine ⟨Tj, _, par', rt', Xj.more (by omega) (by omega), Nj, Oj, own_For_keep F' Kj (fun i => ninS (Ne.symm (neg i)) nin0), I', H' _ H, ((Vt.keep Ku (ninS (net 0) (ninS (net 1) (ninS (net 2) (ninS (net 3) nin0))))).keep Kj (ninS netg nin0)), Vg'', ((Vo.keep Ku (ninS (neo 0) (ninS (neo 1) (ninS (neo 2) (ninS (neo 3) nin0))))).keep Kj (ninS neog nin0)), fun target kt => ?_⟩
  show Steps p.tables e below (T.setTop (mkF m 244 #[.val (.int p1), .val (.int p2), .val (.int p3), .val (.int p4), .val (.int p5), .val (.ref oA), .val (.ref tA), .val (.ref gA), .val (.int (own_ix i0)), .val (.int (own_ix i1)), .val (.int (own_ix i2)), .val (.int (own_ix i3)), .val (.int (own_ix i4)), .val (.int (own_ix i5)), .val (.int nn), .unset, .unset, .unset, .unset] [])) _
  refine XS.aload X.here hx rfl (hb hby at_244) rfl rfl ?_
  show Steps p.tables e below (T.setTop (mkF m 246 #[.val (.int p1), .val (.int p2), .val (.int p3), .val (.int p4), .val (.int p5), .val (.ref oA), .val (.ref tA), .val (.ref gA), .val (.int (own_ix i0)), .val (.int (own_ix i1)), .val (.int (own_ix i2)), .val (.int (own_ix i3)), .val (.int (own_ix i4)), .val (.int (own_ix i5)), .val (.int nn), .unset, .unset, .unset, .unset] [(.ref tA)])) _
  refine XS.iload X.here hx rfl (hb hby at_246) rfl ?_
  show Steps p.tables e below (T.setTop (mkF m 248 #[.val (.int p1), .val (.int p2), .val (.int p3), .val (.int p4), .val (.int p5), .val (.ref oA), .val (.ref tA), .val (.ref gA), .val (.int (own_ix i0)), .val (.int (own_ix i1)), .val (.int (own_ix i2)), .val (.int (own_ix i3)), .val (.int (own_ix i4)), .val (.int (own_ix i5)), .val (.int nn), .unset, .unset, .unset, .unset] [(.int (own_ix i4)), (.ref tA)])) _
  refine X.aaload hx (j := (own_ix i4)) (v := (.ref (t i4))) (by rw [eT]; exact Ar1075.1) (State.isArrayOf_alike hZ.alike Ar1075.2.1) rfl Ar1075.2.2 hin1075 hat1075 (g := (mkF m 248 #[.val (.int p1), .val (.int p2), .val (.int p3), .val (.int p4), .val (.int p5), .val (.ref oA), .val (.ref tA), .val (.ref gA), .val (.int (own_ix i0)), .val (.int (own_ix i1)), .val (.int (own_ix i2)), .val (.int (own_ix i3)), .val (.int (own_ix i4)), .val (.int (own_ix i5)), .val (.int nn), .unset, .unset, .unset, .unset] [(.int (own_ix i4)), (.ref tA)])) rfl rfl (hb hby at_248) _ ?_
  show Steps p.tables e below (T.setTop (mkF m 249 #[.val (.int p1), .val (.int p2), .val (.int p3), .val (.int p4), .val (.int p5), .val (.ref oA), .val (.ref tA), .val (.ref gA), .val (.int (own_ix i0)), .val (.int (own_ix i1)), .val (.int (own_ix i2)), .val (.int (own_ix i3)), .val (.int (own_ix i4)), .val (.int (own_ix i5)), .val (.int nn), .unset, .unset, .unset, .unset] [(.ref (t i4))])) _
  refine XS.aload X.here hx rfl (hb hby at_249) rfl rfl ?_
  show Steps p.tables e below (T.setTop (mkF m 251 #[.val (.int p1), .val (.int p2), .val (.int p3), .val (.int p4), .val (.int p5), .val (.ref oA), .val (.ref tA), .val (.ref gA), .val (.int (own_ix i0)), .val (.int (own_ix i1)), .val (.int (own_ix i2)), .val (.int (own_ix i3)), .val (.int (own_ix i4)), .val (.int (own_ix i5)), .val (.int nn), .unset, .unset, .unset, .unset] [(.ref tA), (.ref (t i4))])) _
  refine XS.iload X.here hx rfl (hb hby at_251) rfl ?_
  show Steps p.tables e below (T.setTop (mkF m 253 #[.val (.int p1), .val (.int p2), .val (.int p3), .val (.int p4), .val (.int p5), .val (.ref oA), .val (.ref tA), .val (.ref gA), .val (.int (own_ix i0)), .val (.int (own_ix i1)), .val (.int (own_ix i2)), .val (.int (own_ix i3)), .val (.int (own_ix i4)), .val (.int (own_ix i5)), .val (.int nn), .unset, .unset, .unset, .unset] [(.int (own_ix i5)), (.ref tA), (.ref (t i4))])) _
  refine X.aaload hx (j := (own_ix i5)) (v := (.ref (t i5))) (by rw [eT]; exact Ar1076.1) (State.isArrayOf_alike hZ.alike Ar1076.2.1) rfl Ar1076.2.2 hin1076 hat1076 (g := (mkF m 253 #[.val (.int p1), .val (.int p2), .val (.int p3), .val (.int p4), .val (.int p5), .val (.ref oA), .val (.ref tA), .val (.ref gA), .val (.int (own_ix i0)), .val (.int (own_ix i1)), .val (.int (own_ix i2)), .val (.int (own_ix i3)), .val (.int (own_ix i4)), .val (.int (own_ix i5)), .val (.int nn), .unset, .unset, .unset, .unset] [(.int (own_ix i5)), (.ref tA), (.ref (t i4))])) rfl rfl (hb hby at_253) _ ?_
  show Steps p.tables e below (T.setTop (mkF m 254 #[.val (.int p1), .val (.int p2), .val (.int p3), .val (.int p4), .val (.int p5), .val (.ref oA), .val (.ref tA), .val (.ref gA), .val (.int (own_ix i0)), .val (.int (own_ix i1)), .val (.int (own_ix i2)), .val (.int (own_ix i3)), .val (.int (own_ix i4)), .val (.int (own_ix i5)), .val (.int nn), .unset, .unset, .unset, .unset] [(.ref (t i5)), (.ref (t i4))])) _
  refine stu.trans ?_
  show Steps p.tables e below (Tu.setTop (mkF m 257 #[.val (.int p1), .val (.int p2), .val (.int p3), .val (.int p4), .val (.int p5), .val (.ref oA), .val (.ref tA), .val (.ref gA), .val (.int (own_ix i0)), .val (.int (own_ix i1)), .val (.int (own_ix i2)), .val (.int (own_ix i3)), .val (.int (own_ix i4)), .val (.int (own_ix i5)), .val (.int nn), .unset, .unset, .unset, .unset] [])) _
  refine XS.aload Xu.here hx rfl (hb hby at_257) rfl rfl ?_
  show Steps p.tables e below (Tu.setTop (mkF m 259 #[.val (.int p1), .val (.int p2), .val (.int p3), .val (.int p4), .val (.int p5), .val (.ref oA), .val (.ref tA), .val (.ref gA), .val (.int (own_ix i0)), .val (.int (own_ix i1)), .val (.int (own_ix i2)), .val (.int (own_ix i3)), .val (.int (own_ix i4)), .val (.int (own_ix i5)), .val (.int nn), .unset, .unset, .unset, .unset] [(.ref gA)])) _
  refine XS.iload Xu.here hx rfl (hb hby at_259) rfl ?_
  show Steps p.tables e below (Tu.setTop (mkF m 261 #[.val (.int p1), .val (.int p2), .val (.int p3), .val (.int p4), .val (.int p5), .val (.ref oA), .val (.ref tA), .val (.ref gA), .val (.int (own_ix i0)), .val (.int (own_ix i1)), .val (.int (own_ix i2)), .val (.int (own_ix i3)), .val (.int (own_ix i4)), .val (.int (own_ix i5)), .val (.int nn), .unset, .unset, .unset, .unset] [(.int (own_ix i4)), (.ref gA)])) _
  refine XS.iload Xu.here hx rfl (hb hby at_261) rfl ?_
  show Steps p.tables e below (Tu.setTop (mkF m 263 #[.val (.int p1), .val (.int p2), .val (.int p3), .val (.int p4), .val (.int p5), .val (.ref oA), .val (.ref tA), .val (.ref gA), .val (.int (own_ix i0)), .val (.int (own_ix i1)), .val (.int (own_ix i2)), .val (.int (own_ix i3)), .val (.int (own_ix i4)), .val (.int (own_ix i5)), .val (.int nn), .unset, .unset, .unset, .unset] [(.int (own_ix i5)), (.int (own_ix i4)), (.ref gA)])) _
  refine stj _ ?_
  exact kt
theorem pd_5 : parseMethodDescriptor "([I[II)I" = some ⟨[(.array .int), (.array .int), .int], some .int⟩ := by decide +kernel
set_option maxRecDepth 65536 in
set_option maxHeartbeats 40000000 in
theorem own_fin_0 {p : Program} {l : Launch} {e : Env} {R : Room} {s : State} {m : MethodId} {args : Array Value} {below : List Frame} {meth : Method} {c : Code} {locs : List Loc} {cells slots : Nat} {Z : State} {a0 : Array Value} {h : Heap} {T : State} {n0 : Nat} (hw : ∀ d ∈ tables_1, d.before a0 Z = true) (t : Fin 4 → Addr) (ord : Fin 4 → Int32) (par rt : Fin 4 → Fin 4) (g : Fin 4 → Int32) (i0 i1 i2 i3 i4 i5 : Fin 4) (p1 p2 p3 p4 p5 nn : Int32) {tA gA oA : Addr} {kt kg ko : ClassId} (X : Stand p l e R s m args below meth c T locs cells slots) (hx : p.tables.exec = Jvm.exec) (hZ : Z.Warmed39 s.vm) (hby : c.code = code) (hml : c.maxLocals = 19) (hown : s.vm.findClass "com/example/pentad/pentad/tx/TempIdRootPinLaw" = some m.cls) (eT : T.heap = h) (O : Old Z n0 h) (N : Fr n0 locs) (F : own_For Z h t ord par) (I : own_Inv ord par rt) (inj : ∀ i j, t i = t j → i = j) (g0 : ∀ i, n0 ≤ t i) (injO : ∀ k l, ord k = ord l → k = l) (H : own_Cls g rt) (Vt : Arv Z h tA kt (.object "com/example/pentad/pentad/tx/TempId") (4 : Int32) [.ref (t 0), .ref (t 1), .ref (t 2), .ref (t 3)] .null) (Vg : Arv Z h gA kg .int (4 : Int32) [.int (g 0), .int (g 1), .int (g 2), .int (g 3)] (.int (0 : Int32))) (Vo : Arv Z h oA ko .int (4 : Int32) [.int (ord 0), .int (ord 1), .int (ord 2), .int (ord 3)] (.int (0 : Int32))) (net : ∀ i, tA ≠ t i) (neg : ∀ i, gA ≠ t i) (neo : ∀ i, oA ≠ t i) (netg : tA ≠ gA) (neog : oA ≠ gA) (ggA : n0 ≤ gA) (hrc : cells + 0 ≤ R.cells) (hrs : slots + 0 ≤ R.slots) (hrf : 3 ≤ R.frames) (hrl : 60 ≤ R.locals) : ∃ (T' : State) (L' : List Loc) (par' : Fin 4 → Fin 4), Stand p l e R s m args below meth c T' L' cells slots ∧ Fr n0 L' ∧ Old Z n0 T'.heap ∧ own_For Z T'.heap t ord par' ∧ own_Inv ord par' rt ∧ Arv Z T'.heap tA kt (.object "com/example/pentad/pentad/tx/TempId") (4 : Int32) [.ref (t 0), .ref (t 1), .ref (t 2), .ref (t 3)] .null ∧ Arv Z T'.heap gA kg .int (4 : Int32) [.int (g 0), .int (g 1), .int (g 2), .int (g 3)] (.int (0 : Int32)) ∧ Arv Z T'.heap oA ko .int (4 : Int32) [.int (ord 0), .int (ord 1), .int (ord 2), .int (ord 3)] (.int (0 : Int32)) ∧ ∀ target, Steps p.tables e below (T'.setTop (mkF m 294 #[.val (.int p1), .val (.int p2), .val (.int p3), .val (.int p4), .val (.int p5), .val (.ref oA), .val (.ref tA), .val (.ref gA), .val (.int (own_ix i0)), .val (.int (own_ix i1)), .val (.int (own_ix i2)), .val (.int (own_ix i3)), .val (.int (own_ix i4)), .val (.int (own_ix i5)), .val (.int nn), .val (.int (1 : Int32)), .unset, .unset, .unset] [])) target → Steps p.tables e below (T.setTop (mkF m 266 #[.val (.int p1), .val (.int p2), .val (.int p3), .val (.int p4), .val (.int p5), .val (.ref oA), .val (.ref tA), .val (.ref gA), .val (.int (own_ix i0)), .val (.int (own_ix i1)), .val (.int (own_ix i2)), .val (.int (own_ix i3)), .val (.int (own_ix i4)), .val (.int (own_ix i5)), .val (.int nn), .unset, .unset, .unset, .unset] [])) target := by
  obtain ⟨cl1077, Ar1077, q1077, S1077, M1077, Hs1077, G1077⟩ := id Vt
  have hin1077 : ¬ ((0 : Int32) < 0 ∨ cl1077.slots.size ≤ ((0 : Int32)).toNatClampNeg) := inb_of S1077 ⟨by decide, by decide⟩
  have hat1077 : cl1077.slots[((0 : Int32)).toNatClampNeg]? = some (.ref (t 0)) := Has.at Hs1077 hin1077 rfl
  obtain ⟨cqr, kqr, qra, qrb, qrc⟩ := isOf hZ eT (F.1 0)
  obtain ⟨_, _, ⟨Tr, Lr, kr, nr⟩, -, Xr, ⟨Lcr, hQr, lr, yr, zr⟩, str⟩ := X.virtualBack hx (y := (⟨"com/example/pentad/pentad/tx/TempId", "root", "()Lcom/example/pentad/pentad/tx/TempId;"⟩ : MethodName)) (z := (⟨"com/example/pentad/pentad/tx/TempId", "root", "()Lcom/example/pentad/pentad/tx/TempId;"⟩ : MethodName)) hown (mvT hZ (hw _ (List.mem_of_getElem? (i := 16) rfl))) (mvT hZ (hw _ (List.mem_of_getElem? (i := 17) rfl))) (notFace_of_selects (args := #[]) (mvT hZ (hw _ (List.mem_of_getElem? (i := 19) rfl)))) (mvT hZ (hw _ (List.mem_of_getElem? (i := 19) rfl))) (mvT hZ (hw _ (List.mem_of_getElem? (i := 18) rfl))) (by decide) (backOf (W := 0) (own_root l Z a0 hw [] t ord par rt 0 h n0 O F I inj g0) hZ (hw _ (List.mem_of_getElem? (i := 20) rfl)) (hw _ (List.mem_of_getElem? (i := 4) rfl)) (Nat.le_trans (by decide) hrf) (Nat.le_trans (by decide) hrl)) qra qrc (g := (mkF m 270 #[.val (.int p1), .val (.int p2), .val (.int p3), .val (.int p4), .val (.int p5), .val (.ref oA), .val (.ref tA), .val (.ref gA), .val (.int (own_ix i0)), .val (.int (own_ix i1)), .val (.int (own_ix i2)), .val (.int (own_ix i3)), .val (.int (own_ix i4)), .val (.int (own_ix i5)), .val (.int nn), .unset, .unset, .unset, .unset] [(.ref (t 0))])) rfl (by rw [hml]; rfl) (Steps.refl _) (argsL := []) (rest := []) (lenOf pd_1 rfl) rfl (by show 2 * 0 + _ ≤ _; exact Nat.le_of_eq rfl) (hb hby at_270) (fun _ _ => ⟨rfl, eT, (Nat.le_trans (by omega) hrc : cells + 0 ≤ R.cells), (Nat.le_trans (by omega) hrs : slots + 0 ≤ R.slots)⟩)
  dsimp only [Pt.U, Pt.locs, Pt.cells, Pt.slots] at Xr lr yr zr str hQr
  subst lr
  rw [yr, zr] at Xr
  obtain ⟨rfl, Nqr, Kr, F'⟩ := hQr
  have Or' : Old Z n0 Tr.heap := O.keep Kr (own_all g0)
  have I' := own_inv_root I 0
  have Vg' := Vg.keep Kr (ninS (neg 0) (ninS (neg 1) (ninS (neg 2) (ninS (neg 3) nin0))))
  have Vo' := Vo.keep Kr (ninS (neo 0) (ninS (neo 1) (ninS (neo 2) (ninS (neo 3) nin0))))
  have Vt' := Vt.keep Kr (ninS (net 0) (ninS (net 1) (ninS (net 2) (ninS (net 3) nin0))))
  have Nr := Fr.app N Nqr
  obtain ⟨_, _, ⟨Tx, Lx, kx, nx⟩, -, Xx, ⟨Lcx, hQx, lx, yx, zx⟩, stx⟩ := Jvm.LawKit.callS Xr hx (y := (⟨"com/example/pentad/pentad/tx/TempIdRootPinLaw", "expected", "([I[II)I"⟩ : MethodName)) hown (mvT hZ (hw _ (List.mem_of_getElem? (i := 21) rfl))) (mvT hZ (hw _ (List.mem_of_getElem? (i := 22) rfl))) (mvT hZ (hw _ (List.mem_of_getElem? (i := 23) rfl))) (mvT hZ (hw _ (List.mem_of_getElem? (i := 24) rfl))) (by decide) (backOf (W := 2) (own_expected l Z a0 hw [] g ord gA oA kg ko 0 Tr.heap n0 Or' Vg' Vo') hZ (hw _ (List.mem_of_getElem? (i := 24) rfl)) (hw _ (List.mem_of_getElem? (i := 23) rfl)) (Nat.le_trans (by decide) hrf) (Nat.le_trans (by decide) hrl)) (g := (mkF m 280 #[.val (.int p1), .val (.int p2), .val (.int p3), .val (.int p4), .val (.int p5), .val (.ref oA), .val (.ref tA), .val (.ref gA), .val (.int (own_ix i0)), .val (.int (own_ix i1)), .val (.int (own_ix i2)), .val (.int (own_ix i3)), .val (.int (own_ix i4)), .val (.int (own_ix i5)), .val (.int nn), .unset, .unset, .unset, .unset] [(.int (0 : Int32)), (.ref oA), (.ref gA), (.ref tA), (.ref (t (rt 0)))])) rfl (by rw [hml]; rfl) (argsL := [(.ref gA), (.ref oA), (.int (0 : Int32))]) (rest := [(.ref tA), (.ref (t (rt 0)))]) (lenOf pd_5 rfl) rfl (by show 2 * 0 + _ ≤ _; exact Nat.le_of_eq rfl) (hb hby at_280) (fun _ _ => ⟨rfl, rfl, (Nat.le_trans (by omega) hrc : cells + 0 + 0 ≤ R.cells), (Nat.le_trans (by omega) hrs : slots + 0 + 0 ≤ R.slots)⟩)
  dsimp only [Pt.U, Pt.locs, Pt.cells, Pt.slots] at Xx lx yx zx stx hQx
  subst lx
  rw [yx, zx] at Xx
  obtain ⟨rfl, Nqx, ex⟩ := hQx
  have Nx := Fr.app Nr Nqx
  obtain ⟨cl1078, Ar1078, q1078, S1078, M1078, Hs1078, G1078⟩ := id Vt'
  have hin1078 : ¬ ((own_ix (rt 0)) < 0 ∨ cl1078.slots.size ≤ ((own_ix (rt 0))).toNatClampNeg) := inb_of S1078 (own_ixb (rt 0))
  have hat1078 : cl1078.slots[((own_ix (rt 0))).toNatClampNeg]? = some (.ref (t (rt 0))) := Has.at Hs1078 hin1078 (own_getR t (rt 0) _)
  refine ⟨Tx, _, own_set par 0 (rt 0), Xx.more (by omega) (by omega), Nx, ?_, ?_, I', ?_, ?_, ?_, fun target kt => ?_⟩
  · rw [ex]; exact Or'
  · rw [ex]; exact F'
  · rw [ex]; exact Vt'
  · rw [ex]; exact Vg'
  · rw [ex]; exact Vo'
  · show Steps p.tables e below (T.setTop (mkF m 266 #[.val (.int p1), .val (.int p2), .val (.int p3), .val (.int p4), .val (.int p5), .val (.ref oA), .val (.ref tA), .val (.ref gA), .val (.int (own_ix i0)), .val (.int (own_ix i1)), .val (.int (own_ix i2)), .val (.int (own_ix i3)), .val (.int (own_ix i4)), .val (.int (own_ix i5)), .val (.int nn), .unset, .unset, .unset, .unset] [])) _
    refine XS.aload X.here hx rfl (hb hby at_266) rfl rfl ?_
    show Steps p.tables e below (T.setTop (mkF m 268 #[.val (.int p1), .val (.int p2), .val (.int p3), .val (.int p4), .val (.int p5), .val (.ref oA), .val (.ref tA), .val (.ref gA), .val (.int (own_ix i0)), .val (.int (own_ix i1)), .val (.int (own_ix i2)), .val (.int (own_ix i3)), .val (.int (own_ix i4)), .val (.int (own_ix i5)), .val (.int nn), .unset, .unset, .unset, .unset] [(.ref tA)])) _
    refine XS.iconst X.here hx rfl (hb hby at_268) ?_
    show Steps p.tables e below (T.setTop (mkF m 269 #[.val (.int p1), .val (.int p2), .val (.int p3), .val (.int p4), .val (.int p5), .val (.ref oA), .val (.ref tA), .val (.ref gA), .val (.int (own_ix i0)), .val (.int (own_ix i1)), .val (.int (own_ix i2)), .val (.int (own_ix i3)), .val (.int (own_ix i4)), .val (.int (own_ix i5)), .val (.int nn), .unset, .unset, .unset, .unset] [(.int (0 : Int32)), (.ref tA)])) _
    refine X.aaload hx (j := (0 : Int32)) (v := (.ref (t 0))) (by rw [eT]; exact Ar1077.1) (State.isArrayOf_alike hZ.alike Ar1077.2.1) rfl Ar1077.2.2 hin1077 hat1077 (g := (mkF m 269 #[.val (.int p1), .val (.int p2), .val (.int p3), .val (.int p4), .val (.int p5), .val (.ref oA), .val (.ref tA), .val (.ref gA), .val (.int (own_ix i0)), .val (.int (own_ix i1)), .val (.int (own_ix i2)), .val (.int (own_ix i3)), .val (.int (own_ix i4)), .val (.int (own_ix i5)), .val (.int nn), .unset, .unset, .unset, .unset] [(.int (0 : Int32)), (.ref tA)])) rfl rfl (hb hby at_269) _ ?_
    show Steps p.tables e below (T.setTop (mkF m 270 #[.val (.int p1), .val (.int p2), .val (.int p3), .val (.int p4), .val (.int p5), .val (.ref oA), .val (.ref tA), .val (.ref gA), .val (.int (own_ix i0)), .val (.int (own_ix i1)), .val (.int (own_ix i2)), .val (.int (own_ix i3)), .val (.int (own_ix i4)), .val (.int (own_ix i5)), .val (.int nn), .unset, .unset, .unset, .unset] [(.ref (t 0))])) _
    refine str.trans ?_
    show Steps p.tables e below (Tr.setTop (mkF m 273 #[.val (.int p1), .val (.int p2), .val (.int p3), .val (.int p4), .val (.int p5), .val (.ref oA), .val (.ref tA), .val (.ref gA), .val (.int (own_ix i0)), .val (.int (own_ix i1)), .val (.int (own_ix i2)), .val (.int (own_ix i3)), .val (.int (own_ix i4)), .val (.int (own_ix i5)), .val (.int nn), .unset, .unset, .unset, .unset] [(.ref (t (rt 0)))])) _
    refine XS.aload Xr.here hx rfl (hb hby at_273) rfl rfl ?_
    show Steps p.tables e below (Tr.setTop (mkF m 275 #[.val (.int p1), .val (.int p2), .val (.int p3), .val (.int p4), .val (.int p5), .val (.ref oA), .val (.ref tA), .val (.ref gA), .val (.int (own_ix i0)), .val (.int (own_ix i1)), .val (.int (own_ix i2)), .val (.int (own_ix i3)), .val (.int (own_ix i4)), .val (.int (own_ix i5)), .val (.int nn), .unset, .unset, .unset, .unset] [(.ref tA), (.ref (t (rt 0)))])) _
    refine XS.aload Xr.here hx rfl (hb hby at_275) rfl rfl ?_
    show Steps p.tables e below (Tr.setTop (mkF m 277 #[.val (.int p1), .val (.int p2), .val (.int p3), .val (.int p4), .val (.int p5), .val (.ref oA), .val (.ref tA), .val (.ref gA), .val (.int (own_ix i0)), .val (.int (own_ix i1)), .val (.int (own_ix i2)), .val (.int (own_ix i3)), .val (.int (own_ix i4)), .val (.int (own_ix i5)), .val (.int nn), .unset, .unset, .unset, .unset] [(.ref gA), (.ref tA), (.ref (t (rt 0)))])) _
    refine XS.aload Xr.here hx rfl (hb hby at_277) rfl rfl ?_
    show Steps p.tables e below (Tr.setTop (mkF m 279 #[.val (.int p1), .val (.int p2), .val (.int p3), .val (.int p4), .val (.int p5), .val (.ref oA), .val (.ref tA), .val (.ref gA), .val (.int (own_ix i0)), .val (.int (own_ix i1)), .val (.int (own_ix i2)), .val (.int (own_ix i3)), .val (.int (own_ix i4)), .val (.int (own_ix i5)), .val (.int nn), .unset, .unset, .unset, .unset] [(.ref oA), (.ref gA), (.ref tA), (.ref (t (rt 0)))])) _
    refine XS.iconst Xr.here hx rfl (hb hby at_279) ?_
    show Steps p.tables e below (Tr.setTop (mkF m 280 #[.val (.int p1), .val (.int p2), .val (.int p3), .val (.int p4), .val (.int p5), .val (.ref oA), .val (.ref tA), .val (.ref gA), .val (.int (own_ix i0)), .val (.int (own_ix i1)), .val (.int (own_ix i2)), .val (.int (own_ix i3)), .val (.int (own_ix i4)), .val (.int (own_ix i5)), .val (.int nn), .unset, .unset, .unset, .unset] [(.int (0 : Int32)), (.ref oA), (.ref gA), (.ref tA), (.ref (t (rt 0)))])) _
    refine stx _ ?_
    show Steps p.tables e below (Tx.setTop (mkF m 283 #[.val (.int p1), .val (.int p2), .val (.int p3), .val (.int p4), .val (.int p5), .val (.ref oA), .val (.ref tA), .val (.ref gA), .val (.int (own_ix i0)), .val (.int (own_ix i1)), .val (.int (own_ix i2)), .val (.int (own_ix i3)), .val (.int (own_ix i4)), .val (.int (own_ix i5)), .val (.int nn), .unset, .unset, .unset, .unset] [(.int (own_ix (own_exp g ord 0))), (.ref tA), (.ref (t (rt 0)))])) _
    rw [own_exp_root I H injO 0]
    show Steps p.tables e below (Tx.setTop (mkF m 283 #[.val (.int p1), .val (.int p2), .val (.int p3), .val (.int p4), .val (.int p5), .val (.ref oA), .val (.ref tA), .val (.ref gA), .val (.int (own_ix i0)), .val (.int (own_ix i1)), .val (.int (own_ix i2)), .val (.int (own_ix i3)), .val (.int (own_ix i4)), .val (.int (own_ix i5)), .val (.int nn), .unset, .unset, .unset, .unset] [(.int (own_ix (rt 0))), (.ref tA), (.ref (t (rt 0)))])) _
    refine Xx.aaload hx (j := (own_ix (rt 0))) (v := (.ref (t (rt 0)))) (by rw [ex]; exact Ar1078.1) (State.isArrayOf_alike hZ.alike Ar1078.2.1) rfl Ar1078.2.2 hin1078 hat1078 (g := (mkF m 283 #[.val (.int p1), .val (.int p2), .val (.int p3), .val (.int p4), .val (.int p5), .val (.ref oA), .val (.ref tA), .val (.ref gA), .val (.int (own_ix i0)), .val (.int (own_ix i1)), .val (.int (own_ix i2)), .val (.int (own_ix i3)), .val (.int (own_ix i4)), .val (.int (own_ix i5)), .val (.int nn), .unset, .unset, .unset, .unset] [(.int (own_ix (rt 0))), (.ref tA), (.ref (t (rt 0)))])) rfl rfl (hb hby at_283) _ ?_
    show Steps p.tables e below (Tx.setTop (mkF m 284 #[.val (.int p1), .val (.int p2), .val (.int p3), .val (.int p4), .val (.int p5), .val (.ref oA), .val (.ref tA), .val (.ref gA), .val (.int (own_ix i0)), .val (.int (own_ix i1)), .val (.int (own_ix i2)), .val (.int (own_ix i3)), .val (.int (own_ix i4)), .val (.int (own_ix i5)), .val (.int nn), .unset, .unset, .unset, .unset] [(.ref (t (rt 0))), (.ref (t (rt 0)))])) _
    refine Jvm.RoadKit.acmp (g := (mkF m 284 #[.val (.int p1), .val (.int p2), .val (.int p3), .val (.int p4), .val (.int p5), .val (.ref oA), .val (.ref tA), .val (.ref gA), .val (.int (own_ix i0)), .val (.int (own_ix i1)), .val (.int (own_ix i2)), .val (.int (own_ix i3)), .val (.int (own_ix i4)), .val (.int (own_ix i5)), .val (.int nn), .unset, .unset, .unset, .unset] [(.ref (t (rt 0))), (.ref (t (rt 0)))])) Xx hx rfl rfl rfl (pc0 := 284) (pc' := 287) (same := true) rfl (hb hby at_284) rfl (decide_eq_true rfl) (by decide) (by decide) ?_
    show Steps p.tables e below (Tx.setTop (mkF m 287 #[.val (.int p1), .val (.int p2), .val (.int p3), .val (.int p4), .val (.int p5), .val (.ref oA), .val (.ref tA), .val (.ref gA), .val (.int (own_ix i0)), .val (.int (own_ix i1)), .val (.int (own_ix i2)), .val (.int (own_ix i3)), .val (.int (own_ix i4)), .val (.int (own_ix i5)), .val (.int nn), .unset, .unset, .unset, .unset] [])) _
    refine XS.iconst Xx.here hx rfl (hb hby at_287) ?_
    show Steps p.tables e below (Tx.setTop (mkF m 288 #[.val (.int p1), .val (.int p2), .val (.int p3), .val (.int p4), .val (.int p5), .val (.ref oA), .val (.ref tA), .val (.ref gA), .val (.int (own_ix i0)), .val (.int (own_ix i1)), .val (.int (own_ix i2)), .val (.int (own_ix i3)), .val (.int (own_ix i4)), .val (.int (own_ix i5)), .val (.int nn), .unset, .unset, .unset, .unset] [(.int (1 : Int32))])) _
    refine XS.goto Xx.here hx rfl (pc0 := 288) (pc' := 292) rfl (hb hby at_288) (by decide) (by decide) ?_
    show Steps p.tables e below (Tx.setTop (mkF m 292 #[.val (.int p1), .val (.int p2), .val (.int p3), .val (.int p4), .val (.int p5), .val (.ref oA), .val (.ref tA), .val (.ref gA), .val (.int (own_ix i0)), .val (.int (own_ix i1)), .val (.int (own_ix i2)), .val (.int (own_ix i3)), .val (.int (own_ix i4)), .val (.int (own_ix i5)), .val (.int nn), .unset, .unset, .unset, .unset] [(.int (1 : Int32))])) _
    refine XS.istore Xx.here hx rfl (hb hby at_292) rfl (l' := #[.val (.int p1), .val (.int p2), .val (.int p3), .val (.int p4), .val (.int p5), .val (.ref oA), .val (.ref tA), .val (.ref gA), .val (.int (own_ix i0)), .val (.int (own_ix i1)), .val (.int (own_ix i2)), .val (.int (own_ix i3)), .val (.int (own_ix i4)), .val (.int (own_ix i5)), .val (.int nn), .val (.int (1 : Int32)), .unset, .unset, .unset]) rfl ?_
    exact kt
set_option maxRecDepth 65536 in
set_option maxHeartbeats 40000000 in
theorem own_fin_1 {p : Program} {l : Launch} {e : Env} {R : Room} {s : State} {m : MethodId} {args : Array Value} {below : List Frame} {meth : Method} {c : Code} {locs : List Loc} {cells slots : Nat} {Z : State} {a0 : Array Value} {h : Heap} {T : State} {n0 : Nat} (hw : ∀ d ∈ tables_1, d.before a0 Z = true) (t : Fin 4 → Addr) (ord : Fin 4 → Int32) (par rt : Fin 4 → Fin 4) (g : Fin 4 → Int32) (i0 i1 i2 i3 i4 i5 : Fin 4) (p1 p2 p3 p4 p5 nn : Int32) {tA gA oA : Addr} {kt kg ko : ClassId} (X : Stand p l e R s m args below meth c T locs cells slots) (hx : p.tables.exec = Jvm.exec) (hZ : Z.Warmed39 s.vm) (hby : c.code = code) (hml : c.maxLocals = 19) (hown : s.vm.findClass "com/example/pentad/pentad/tx/TempIdRootPinLaw" = some m.cls) (eT : T.heap = h) (O : Old Z n0 h) (N : Fr n0 locs) (F : own_For Z h t ord par) (I : own_Inv ord par rt) (inj : ∀ i j, t i = t j → i = j) (g0 : ∀ i, n0 ≤ t i) (injO : ∀ k l, ord k = ord l → k = l) (H : own_Cls g rt) (Vt : Arv Z h tA kt (.object "com/example/pentad/pentad/tx/TempId") (4 : Int32) [.ref (t 0), .ref (t 1), .ref (t 2), .ref (t 3)] .null) (Vg : Arv Z h gA kg .int (4 : Int32) [.int (g 0), .int (g 1), .int (g 2), .int (g 3)] (.int (0 : Int32))) (Vo : Arv Z h oA ko .int (4 : Int32) [.int (ord 0), .int (ord 1), .int (ord 2), .int (ord 3)] (.int (0 : Int32))) (net : ∀ i, tA ≠ t i) (neg : ∀ i, gA ≠ t i) (neo : ∀ i, oA ≠ t i) (netg : tA ≠ gA) (neog : oA ≠ gA) (ggA : n0 ≤ gA) (hrc : cells + 0 ≤ R.cells) (hrs : slots + 0 ≤ R.slots) (hrf : 3 ≤ R.frames) (hrl : 60 ≤ R.locals) : ∃ (T' : State) (L' : List Loc) (par' : Fin 4 → Fin 4), Stand p l e R s m args below meth c T' L' cells slots ∧ Fr n0 L' ∧ Old Z n0 T'.heap ∧ own_For Z T'.heap t ord par' ∧ own_Inv ord par' rt ∧ Arv Z T'.heap tA kt (.object "com/example/pentad/pentad/tx/TempId") (4 : Int32) [.ref (t 0), .ref (t 1), .ref (t 2), .ref (t 3)] .null ∧ Arv Z T'.heap gA kg .int (4 : Int32) [.int (g 0), .int (g 1), .int (g 2), .int (g 3)] (.int (0 : Int32)) ∧ Arv Z T'.heap oA ko .int (4 : Int32) [.int (ord 0), .int (ord 1), .int (ord 2), .int (ord 3)] (.int (0 : Int32)) ∧ ∀ target, Steps p.tables e below (T'.setTop (mkF m 322 #[.val (.int p1), .val (.int p2), .val (.int p3), .val (.int p4), .val (.int p5), .val (.ref oA), .val (.ref tA), .val (.ref gA), .val (.int (own_ix i0)), .val (.int (own_ix i1)), .val (.int (own_ix i2)), .val (.int (own_ix i3)), .val (.int (own_ix i4)), .val (.int (own_ix i5)), .val (.int nn), .val (.int (1 : Int32)), .val (.int (1 : Int32)), .unset, .unset] [])) target → Steps p.tables e below (T.setTop (mkF m 294 #[.val (.int p1), .val (.int p2), .val (.int p3), .val (.int p4), .val (.int p5), .val (.ref oA), .val (.ref tA), .val (.ref gA), .val (.int (own_ix i0)), .val (.int (own_ix i1)), .val (.int (own_ix i2)), .val (.int (own_ix i3)), .val (.int (own_ix i4)), .val (.int (own_ix i5)), .val (.int nn), .val (.int (1 : Int32)), .unset, .unset, .unset] [])) target := by
  obtain ⟨cl1079, Ar1079, q1079, S1079, M1079, Hs1079, G1079⟩ := id Vt
  have hin1079 : ¬ ((1 : Int32) < 0 ∨ cl1079.slots.size ≤ ((1 : Int32)).toNatClampNeg) := inb_of S1079 ⟨by decide, by decide⟩
  have hat1079 : cl1079.slots[((1 : Int32)).toNatClampNeg]? = some (.ref (t 1)) := Has.at Hs1079 hin1079 rfl
  obtain ⟨cqr, kqr, qra, qrb, qrc⟩ := isOf hZ eT (F.1 1)
  obtain ⟨_, _, ⟨Tr, Lr, kr, nr⟩, -, Xr, ⟨Lcr, hQr, lr, yr, zr⟩, str⟩ := X.virtualBack hx (y := (⟨"com/example/pentad/pentad/tx/TempId", "root", "()Lcom/example/pentad/pentad/tx/TempId;"⟩ : MethodName)) (z := (⟨"com/example/pentad/pentad/tx/TempId", "root", "()Lcom/example/pentad/pentad/tx/TempId;"⟩ : MethodName)) hown (mvT hZ (hw _ (List.mem_of_getElem? (i := 16) rfl))) (mvT hZ (hw _ (List.mem_of_getElem? (i := 17) rfl))) (notFace_of_selects (args := #[]) (mvT hZ (hw _ (List.mem_of_getElem? (i := 19) rfl)))) (mvT hZ (hw _ (List.mem_of_getElem? (i := 19) rfl))) (mvT hZ (hw _ (List.mem_of_getElem? (i := 18) rfl))) (by decide) (backOf (W := 0) (own_root l Z a0 hw [] t ord par rt 1 h n0 O F I inj g0) hZ (hw _ (List.mem_of_getElem? (i := 20) rfl)) (hw _ (List.mem_of_getElem? (i := 4) rfl)) (Nat.le_trans (by decide) hrf) (Nat.le_trans (by decide) hrl)) qra qrc (g := (mkF m 298 #[.val (.int p1), .val (.int p2), .val (.int p3), .val (.int p4), .val (.int p5), .val (.ref oA), .val (.ref tA), .val (.ref gA), .val (.int (own_ix i0)), .val (.int (own_ix i1)), .val (.int (own_ix i2)), .val (.int (own_ix i3)), .val (.int (own_ix i4)), .val (.int (own_ix i5)), .val (.int nn), .val (.int (1 : Int32)), .unset, .unset, .unset] [(.ref (t 1))])) rfl (by rw [hml]; rfl) (Steps.refl _) (argsL := []) (rest := []) (lenOf pd_1 rfl) rfl (by show 2 * 0 + _ ≤ _; exact Nat.le_of_eq rfl) (hb hby at_298) (fun _ _ => ⟨rfl, eT, (Nat.le_trans (by omega) hrc : cells + 0 ≤ R.cells), (Nat.le_trans (by omega) hrs : slots + 0 ≤ R.slots)⟩)
  dsimp only [Pt.U, Pt.locs, Pt.cells, Pt.slots] at Xr lr yr zr str hQr
  subst lr
  rw [yr, zr] at Xr
  obtain ⟨rfl, Nqr, Kr, F'⟩ := hQr
  have Or' : Old Z n0 Tr.heap := O.keep Kr (own_all g0)
  have I' := own_inv_root I 1
  have Vg' := Vg.keep Kr (ninS (neg 0) (ninS (neg 1) (ninS (neg 2) (ninS (neg 3) nin0))))
  have Vo' := Vo.keep Kr (ninS (neo 0) (ninS (neo 1) (ninS (neo 2) (ninS (neo 3) nin0))))
  have Vt' := Vt.keep Kr (ninS (net 0) (ninS (net 1) (ninS (net 2) (ninS (net 3) nin0))))
  have Nr := Fr.app N Nqr
  obtain ⟨_, _, ⟨Tx, Lx, kx, nx⟩, -, Xx, ⟨Lcx, hQx, lx, yx, zx⟩, stx⟩ := Jvm.LawKit.callS Xr hx (y := (⟨"com/example/pentad/pentad/tx/TempIdRootPinLaw", "expected", "([I[II)I"⟩ : MethodName)) hown (mvT hZ (hw _ (List.mem_of_getElem? (i := 21) rfl))) (mvT hZ (hw _ (List.mem_of_getElem? (i := 22) rfl))) (mvT hZ (hw _ (List.mem_of_getElem? (i := 23) rfl))) (mvT hZ (hw _ (List.mem_of_getElem? (i := 24) rfl))) (by decide) (backOf (W := 2) (own_expected l Z a0 hw [] g ord gA oA kg ko 1 Tr.heap n0 Or' Vg' Vo') hZ (hw _ (List.mem_of_getElem? (i := 24) rfl)) (hw _ (List.mem_of_getElem? (i := 23) rfl)) (Nat.le_trans (by decide) hrf) (Nat.le_trans (by decide) hrl)) (g := (mkF m 308 #[.val (.int p1), .val (.int p2), .val (.int p3), .val (.int p4), .val (.int p5), .val (.ref oA), .val (.ref tA), .val (.ref gA), .val (.int (own_ix i0)), .val (.int (own_ix i1)), .val (.int (own_ix i2)), .val (.int (own_ix i3)), .val (.int (own_ix i4)), .val (.int (own_ix i5)), .val (.int nn), .val (.int (1 : Int32)), .unset, .unset, .unset] [(.int (1 : Int32)), (.ref oA), (.ref gA), (.ref tA), (.ref (t (rt 1)))])) rfl (by rw [hml]; rfl) (argsL := [(.ref gA), (.ref oA), (.int (1 : Int32))]) (rest := [(.ref tA), (.ref (t (rt 1)))]) (lenOf pd_5 rfl) rfl (by show 2 * 0 + _ ≤ _; exact Nat.le_of_eq rfl) (hb hby at_308) (fun _ _ => ⟨rfl, rfl, (Nat.le_trans (by omega) hrc : cells + 0 + 0 ≤ R.cells), (Nat.le_trans (by omega) hrs : slots + 0 + 0 ≤ R.slots)⟩)
  dsimp only [Pt.U, Pt.locs, Pt.cells, Pt.slots] at Xx lx yx zx stx hQx
  subst lx
  rw [yx, zx] at Xx
  obtain ⟨rfl, Nqx, ex⟩ := hQx
  have Nx := Fr.app Nr Nqx
  obtain ⟨cl1080, Ar1080, q1080, S1080, M1080, Hs1080, G1080⟩ := id Vt'
  have hin1080 : ¬ ((own_ix (rt 1)) < 0 ∨ cl1080.slots.size ≤ ((own_ix (rt 1))).toNatClampNeg) := inb_of S1080 (own_ixb (rt 1))
  have hat1080 : cl1080.slots[((own_ix (rt 1))).toNatClampNeg]? = some (.ref (t (rt 1))) := Has.at Hs1080 hin1080 (own_getR t (rt 1) _)
  refine ⟨Tx, _, own_set par 1 (rt 1), Xx.more (by omega) (by omega), Nx, ?_, ?_, I', ?_, ?_, ?_, fun target kt => ?_⟩
  · rw [ex]; exact Or'
  · rw [ex]; exact F'
  · rw [ex]; exact Vt'
  · rw [ex]; exact Vg'
  · rw [ex]; exact Vo'
  · show Steps p.tables e below (T.setTop (mkF m 294 #[.val (.int p1), .val (.int p2), .val (.int p3), .val (.int p4), .val (.int p5), .val (.ref oA), .val (.ref tA), .val (.ref gA), .val (.int (own_ix i0)), .val (.int (own_ix i1)), .val (.int (own_ix i2)), .val (.int (own_ix i3)), .val (.int (own_ix i4)), .val (.int (own_ix i5)), .val (.int nn), .val (.int (1 : Int32)), .unset, .unset, .unset] [])) _
    refine XS.aload X.here hx rfl (hb hby at_294) rfl rfl ?_
    show Steps p.tables e below (T.setTop (mkF m 296 #[.val (.int p1), .val (.int p2), .val (.int p3), .val (.int p4), .val (.int p5), .val (.ref oA), .val (.ref tA), .val (.ref gA), .val (.int (own_ix i0)), .val (.int (own_ix i1)), .val (.int (own_ix i2)), .val (.int (own_ix i3)), .val (.int (own_ix i4)), .val (.int (own_ix i5)), .val (.int nn), .val (.int (1 : Int32)), .unset, .unset, .unset] [(.ref tA)])) _
    refine XS.iconst X.here hx rfl (hb hby at_296) ?_
    show Steps p.tables e below (T.setTop (mkF m 297 #[.val (.int p1), .val (.int p2), .val (.int p3), .val (.int p4), .val (.int p5), .val (.ref oA), .val (.ref tA), .val (.ref gA), .val (.int (own_ix i0)), .val (.int (own_ix i1)), .val (.int (own_ix i2)), .val (.int (own_ix i3)), .val (.int (own_ix i4)), .val (.int (own_ix i5)), .val (.int nn), .val (.int (1 : Int32)), .unset, .unset, .unset] [(.int (1 : Int32)), (.ref tA)])) _
    refine X.aaload hx (j := (1 : Int32)) (v := (.ref (t 1))) (by rw [eT]; exact Ar1079.1) (State.isArrayOf_alike hZ.alike Ar1079.2.1) rfl Ar1079.2.2 hin1079 hat1079 (g := (mkF m 297 #[.val (.int p1), .val (.int p2), .val (.int p3), .val (.int p4), .val (.int p5), .val (.ref oA), .val (.ref tA), .val (.ref gA), .val (.int (own_ix i0)), .val (.int (own_ix i1)), .val (.int (own_ix i2)), .val (.int (own_ix i3)), .val (.int (own_ix i4)), .val (.int (own_ix i5)), .val (.int nn), .val (.int (1 : Int32)), .unset, .unset, .unset] [(.int (1 : Int32)), (.ref tA)])) rfl rfl (hb hby at_297) _ ?_
    show Steps p.tables e below (T.setTop (mkF m 298 #[.val (.int p1), .val (.int p2), .val (.int p3), .val (.int p4), .val (.int p5), .val (.ref oA), .val (.ref tA), .val (.ref gA), .val (.int (own_ix i0)), .val (.int (own_ix i1)), .val (.int (own_ix i2)), .val (.int (own_ix i3)), .val (.int (own_ix i4)), .val (.int (own_ix i5)), .val (.int nn), .val (.int (1 : Int32)), .unset, .unset, .unset] [(.ref (t 1))])) _
    refine str.trans ?_
    show Steps p.tables e below (Tr.setTop (mkF m 301 #[.val (.int p1), .val (.int p2), .val (.int p3), .val (.int p4), .val (.int p5), .val (.ref oA), .val (.ref tA), .val (.ref gA), .val (.int (own_ix i0)), .val (.int (own_ix i1)), .val (.int (own_ix i2)), .val (.int (own_ix i3)), .val (.int (own_ix i4)), .val (.int (own_ix i5)), .val (.int nn), .val (.int (1 : Int32)), .unset, .unset, .unset] [(.ref (t (rt 1)))])) _
    refine XS.aload Xr.here hx rfl (hb hby at_301) rfl rfl ?_
    show Steps p.tables e below (Tr.setTop (mkF m 303 #[.val (.int p1), .val (.int p2), .val (.int p3), .val (.int p4), .val (.int p5), .val (.ref oA), .val (.ref tA), .val (.ref gA), .val (.int (own_ix i0)), .val (.int (own_ix i1)), .val (.int (own_ix i2)), .val (.int (own_ix i3)), .val (.int (own_ix i4)), .val (.int (own_ix i5)), .val (.int nn), .val (.int (1 : Int32)), .unset, .unset, .unset] [(.ref tA), (.ref (t (rt 1)))])) _
    refine XS.aload Xr.here hx rfl (hb hby at_303) rfl rfl ?_
    show Steps p.tables e below (Tr.setTop (mkF m 305 #[.val (.int p1), .val (.int p2), .val (.int p3), .val (.int p4), .val (.int p5), .val (.ref oA), .val (.ref tA), .val (.ref gA), .val (.int (own_ix i0)), .val (.int (own_ix i1)), .val (.int (own_ix i2)), .val (.int (own_ix i3)), .val (.int (own_ix i4)), .val (.int (own_ix i5)), .val (.int nn), .val (.int (1 : Int32)), .unset, .unset, .unset] [(.ref gA), (.ref tA), (.ref (t (rt 1)))])) _
    refine XS.aload Xr.here hx rfl (hb hby at_305) rfl rfl ?_
    show Steps p.tables e below (Tr.setTop (mkF m 307 #[.val (.int p1), .val (.int p2), .val (.int p3), .val (.int p4), .val (.int p5), .val (.ref oA), .val (.ref tA), .val (.ref gA), .val (.int (own_ix i0)), .val (.int (own_ix i1)), .val (.int (own_ix i2)), .val (.int (own_ix i3)), .val (.int (own_ix i4)), .val (.int (own_ix i5)), .val (.int nn), .val (.int (1 : Int32)), .unset, .unset, .unset] [(.ref oA), (.ref gA), (.ref tA), (.ref (t (rt 1)))])) _
    refine XS.iconst Xr.here hx rfl (hb hby at_307) ?_
    show Steps p.tables e below (Tr.setTop (mkF m 308 #[.val (.int p1), .val (.int p2), .val (.int p3), .val (.int p4), .val (.int p5), .val (.ref oA), .val (.ref tA), .val (.ref gA), .val (.int (own_ix i0)), .val (.int (own_ix i1)), .val (.int (own_ix i2)), .val (.int (own_ix i3)), .val (.int (own_ix i4)), .val (.int (own_ix i5)), .val (.int nn), .val (.int (1 : Int32)), .unset, .unset, .unset] [(.int (1 : Int32)), (.ref oA), (.ref gA), (.ref tA), (.ref (t (rt 1)))])) _
    refine stx _ ?_
    show Steps p.tables e below (Tx.setTop (mkF m 311 #[.val (.int p1), .val (.int p2), .val (.int p3), .val (.int p4), .val (.int p5), .val (.ref oA), .val (.ref tA), .val (.ref gA), .val (.int (own_ix i0)), .val (.int (own_ix i1)), .val (.int (own_ix i2)), .val (.int (own_ix i3)), .val (.int (own_ix i4)), .val (.int (own_ix i5)), .val (.int nn), .val (.int (1 : Int32)), .unset, .unset, .unset] [(.int (own_ix (own_exp g ord 1))), (.ref tA), (.ref (t (rt 1)))])) _
    rw [own_exp_root I H injO 1]
    show Steps p.tables e below (Tx.setTop (mkF m 311 #[.val (.int p1), .val (.int p2), .val (.int p3), .val (.int p4), .val (.int p5), .val (.ref oA), .val (.ref tA), .val (.ref gA), .val (.int (own_ix i0)), .val (.int (own_ix i1)), .val (.int (own_ix i2)), .val (.int (own_ix i3)), .val (.int (own_ix i4)), .val (.int (own_ix i5)), .val (.int nn), .val (.int (1 : Int32)), .unset, .unset, .unset] [(.int (own_ix (rt 1))), (.ref tA), (.ref (t (rt 1)))])) _
    refine Xx.aaload hx (j := (own_ix (rt 1))) (v := (.ref (t (rt 1)))) (by rw [ex]; exact Ar1080.1) (State.isArrayOf_alike hZ.alike Ar1080.2.1) rfl Ar1080.2.2 hin1080 hat1080 (g := (mkF m 311 #[.val (.int p1), .val (.int p2), .val (.int p3), .val (.int p4), .val (.int p5), .val (.ref oA), .val (.ref tA), .val (.ref gA), .val (.int (own_ix i0)), .val (.int (own_ix i1)), .val (.int (own_ix i2)), .val (.int (own_ix i3)), .val (.int (own_ix i4)), .val (.int (own_ix i5)), .val (.int nn), .val (.int (1 : Int32)), .unset, .unset, .unset] [(.int (own_ix (rt 1))), (.ref tA), (.ref (t (rt 1)))])) rfl rfl (hb hby at_311) _ ?_
    show Steps p.tables e below (Tx.setTop (mkF m 312 #[.val (.int p1), .val (.int p2), .val (.int p3), .val (.int p4), .val (.int p5), .val (.ref oA), .val (.ref tA), .val (.ref gA), .val (.int (own_ix i0)), .val (.int (own_ix i1)), .val (.int (own_ix i2)), .val (.int (own_ix i3)), .val (.int (own_ix i4)), .val (.int (own_ix i5)), .val (.int nn), .val (.int (1 : Int32)), .unset, .unset, .unset] [(.ref (t (rt 1))), (.ref (t (rt 1)))])) _
    refine Jvm.RoadKit.acmp (g := (mkF m 312 #[.val (.int p1), .val (.int p2), .val (.int p3), .val (.int p4), .val (.int p5), .val (.ref oA), .val (.ref tA), .val (.ref gA), .val (.int (own_ix i0)), .val (.int (own_ix i1)), .val (.int (own_ix i2)), .val (.int (own_ix i3)), .val (.int (own_ix i4)), .val (.int (own_ix i5)), .val (.int nn), .val (.int (1 : Int32)), .unset, .unset, .unset] [(.ref (t (rt 1))), (.ref (t (rt 1)))])) Xx hx rfl rfl rfl (pc0 := 312) (pc' := 315) (same := true) rfl (hb hby at_312) rfl (decide_eq_true rfl) (by decide) (by decide) ?_
    show Steps p.tables e below (Tx.setTop (mkF m 315 #[.val (.int p1), .val (.int p2), .val (.int p3), .val (.int p4), .val (.int p5), .val (.ref oA), .val (.ref tA), .val (.ref gA), .val (.int (own_ix i0)), .val (.int (own_ix i1)), .val (.int (own_ix i2)), .val (.int (own_ix i3)), .val (.int (own_ix i4)), .val (.int (own_ix i5)), .val (.int nn), .val (.int (1 : Int32)), .unset, .unset, .unset] [])) _
    refine XS.iconst Xx.here hx rfl (hb hby at_315) ?_
    show Steps p.tables e below (Tx.setTop (mkF m 316 #[.val (.int p1), .val (.int p2), .val (.int p3), .val (.int p4), .val (.int p5), .val (.ref oA), .val (.ref tA), .val (.ref gA), .val (.int (own_ix i0)), .val (.int (own_ix i1)), .val (.int (own_ix i2)), .val (.int (own_ix i3)), .val (.int (own_ix i4)), .val (.int (own_ix i5)), .val (.int nn), .val (.int (1 : Int32)), .unset, .unset, .unset] [(.int (1 : Int32))])) _
    refine XS.goto Xx.here hx rfl (pc0 := 316) (pc' := 320) rfl (hb hby at_316) (by decide) (by decide) ?_
    show Steps p.tables e below (Tx.setTop (mkF m 320 #[.val (.int p1), .val (.int p2), .val (.int p3), .val (.int p4), .val (.int p5), .val (.ref oA), .val (.ref tA), .val (.ref gA), .val (.int (own_ix i0)), .val (.int (own_ix i1)), .val (.int (own_ix i2)), .val (.int (own_ix i3)), .val (.int (own_ix i4)), .val (.int (own_ix i5)), .val (.int nn), .val (.int (1 : Int32)), .unset, .unset, .unset] [(.int (1 : Int32))])) _
    refine XS.istore Xx.here hx rfl (hb hby at_320) rfl (l' := #[.val (.int p1), .val (.int p2), .val (.int p3), .val (.int p4), .val (.int p5), .val (.ref oA), .val (.ref tA), .val (.ref gA), .val (.int (own_ix i0)), .val (.int (own_ix i1)), .val (.int (own_ix i2)), .val (.int (own_ix i3)), .val (.int (own_ix i4)), .val (.int (own_ix i5)), .val (.int nn), .val (.int (1 : Int32)), .val (.int (1 : Int32)), .unset, .unset]) rfl ?_
    exact kt
set_option maxRecDepth 65536 in
set_option maxHeartbeats 40000000 in
theorem own_fin_2 {p : Program} {l : Launch} {e : Env} {R : Room} {s : State} {m : MethodId} {args : Array Value} {below : List Frame} {meth : Method} {c : Code} {locs : List Loc} {cells slots : Nat} {Z : State} {a0 : Array Value} {h : Heap} {T : State} {n0 : Nat} (hw : ∀ d ∈ tables_1, d.before a0 Z = true) (t : Fin 4 → Addr) (ord : Fin 4 → Int32) (par rt : Fin 4 → Fin 4) (g : Fin 4 → Int32) (i0 i1 i2 i3 i4 i5 : Fin 4) (p1 p2 p3 p4 p5 nn : Int32) {tA gA oA : Addr} {kt kg ko : ClassId} (X : Stand p l e R s m args below meth c T locs cells slots) (hx : p.tables.exec = Jvm.exec) (hZ : Z.Warmed39 s.vm) (hby : c.code = code) (hml : c.maxLocals = 19) (hown : s.vm.findClass "com/example/pentad/pentad/tx/TempIdRootPinLaw" = some m.cls) (eT : T.heap = h) (O : Old Z n0 h) (N : Fr n0 locs) (F : own_For Z h t ord par) (I : own_Inv ord par rt) (inj : ∀ i j, t i = t j → i = j) (g0 : ∀ i, n0 ≤ t i) (injO : ∀ k l, ord k = ord l → k = l) (H : own_Cls g rt) (Vt : Arv Z h tA kt (.object "com/example/pentad/pentad/tx/TempId") (4 : Int32) [.ref (t 0), .ref (t 1), .ref (t 2), .ref (t 3)] .null) (Vg : Arv Z h gA kg .int (4 : Int32) [.int (g 0), .int (g 1), .int (g 2), .int (g 3)] (.int (0 : Int32))) (Vo : Arv Z h oA ko .int (4 : Int32) [.int (ord 0), .int (ord 1), .int (ord 2), .int (ord 3)] (.int (0 : Int32))) (net : ∀ i, tA ≠ t i) (neg : ∀ i, gA ≠ t i) (neo : ∀ i, oA ≠ t i) (netg : tA ≠ gA) (neog : oA ≠ gA) (ggA : n0 ≤ gA) (hrc : cells + 0 ≤ R.cells) (hrs : slots + 0 ≤ R.slots) (hrf : 3 ≤ R.frames) (hrl : 60 ≤ R.locals) : ∃ (T' : State) (L' : List Loc) (par' : Fin 4 → Fin 4), Stand p l e R s m args below meth c T' L' cells slots ∧ Fr n0 L' ∧ Old Z n0 T'.heap ∧ own_For Z T'.heap t ord par' ∧ own_Inv ord par' rt ∧ Arv Z T'.heap tA kt (.object "com/example/pentad/pentad/tx/TempId") (4 : Int32) [.ref (t 0), .ref (t 1), .ref (t 2), .ref (t 3)] .null ∧ Arv Z T'.heap gA kg .int (4 : Int32) [.int (g 0), .int (g 1), .int (g 2), .int (g 3)] (.int (0 : Int32)) ∧ Arv Z T'.heap oA ko .int (4 : Int32) [.int (ord 0), .int (ord 1), .int (ord 2), .int (ord 3)] (.int (0 : Int32)) ∧ ∀ target, Steps p.tables e below (T'.setTop (mkF m 350 #[.val (.int p1), .val (.int p2), .val (.int p3), .val (.int p4), .val (.int p5), .val (.ref oA), .val (.ref tA), .val (.ref gA), .val (.int (own_ix i0)), .val (.int (own_ix i1)), .val (.int (own_ix i2)), .val (.int (own_ix i3)), .val (.int (own_ix i4)), .val (.int (own_ix i5)), .val (.int nn), .val (.int (1 : Int32)), .val (.int (1 : Int32)), .val (.int (1 : Int32)), .unset] [])) target → Steps p.tables e below (T.setTop (mkF m 322 #[.val (.int p1), .val (.int p2), .val (.int p3), .val (.int p4), .val (.int p5), .val (.ref oA), .val (.ref tA), .val (.ref gA), .val (.int (own_ix i0)), .val (.int (own_ix i1)), .val (.int (own_ix i2)), .val (.int (own_ix i3)), .val (.int (own_ix i4)), .val (.int (own_ix i5)), .val (.int nn), .val (.int (1 : Int32)), .val (.int (1 : Int32)), .unset, .unset] [])) target := by
  obtain ⟨cl1081, Ar1081, q1081, S1081, M1081, Hs1081, G1081⟩ := id Vt
  have hin1081 : ¬ ((2 : Int32) < 0 ∨ cl1081.slots.size ≤ ((2 : Int32)).toNatClampNeg) := inb_of S1081 ⟨by decide, by decide⟩
  have hat1081 : cl1081.slots[((2 : Int32)).toNatClampNeg]? = some (.ref (t 2)) := Has.at Hs1081 hin1081 rfl
  obtain ⟨cqr, kqr, qra, qrb, qrc⟩ := isOf hZ eT (F.1 2)
  obtain ⟨_, _, ⟨Tr, Lr, kr, nr⟩, -, Xr, ⟨Lcr, hQr, lr, yr, zr⟩, str⟩ := X.virtualBack hx (y := (⟨"com/example/pentad/pentad/tx/TempId", "root", "()Lcom/example/pentad/pentad/tx/TempId;"⟩ : MethodName)) (z := (⟨"com/example/pentad/pentad/tx/TempId", "root", "()Lcom/example/pentad/pentad/tx/TempId;"⟩ : MethodName)) hown (mvT hZ (hw _ (List.mem_of_getElem? (i := 16) rfl))) (mvT hZ (hw _ (List.mem_of_getElem? (i := 17) rfl))) (notFace_of_selects (args := #[]) (mvT hZ (hw _ (List.mem_of_getElem? (i := 19) rfl)))) (mvT hZ (hw _ (List.mem_of_getElem? (i := 19) rfl))) (mvT hZ (hw _ (List.mem_of_getElem? (i := 18) rfl))) (by decide) (backOf (W := 0) (own_root l Z a0 hw [] t ord par rt 2 h n0 O F I inj g0) hZ (hw _ (List.mem_of_getElem? (i := 20) rfl)) (hw _ (List.mem_of_getElem? (i := 4) rfl)) (Nat.le_trans (by decide) hrf) (Nat.le_trans (by decide) hrl)) qra qrc (g := (mkF m 326 #[.val (.int p1), .val (.int p2), .val (.int p3), .val (.int p4), .val (.int p5), .val (.ref oA), .val (.ref tA), .val (.ref gA), .val (.int (own_ix i0)), .val (.int (own_ix i1)), .val (.int (own_ix i2)), .val (.int (own_ix i3)), .val (.int (own_ix i4)), .val (.int (own_ix i5)), .val (.int nn), .val (.int (1 : Int32)), .val (.int (1 : Int32)), .unset, .unset] [(.ref (t 2))])) rfl (by rw [hml]; rfl) (Steps.refl _) (argsL := []) (rest := []) (lenOf pd_1 rfl) rfl (by show 2 * 0 + _ ≤ _; exact Nat.le_of_eq rfl) (hb hby at_326) (fun _ _ => ⟨rfl, eT, (Nat.le_trans (by omega) hrc : cells + 0 ≤ R.cells), (Nat.le_trans (by omega) hrs : slots + 0 ≤ R.slots)⟩)
  dsimp only [Pt.U, Pt.locs, Pt.cells, Pt.slots] at Xr lr yr zr str hQr
  subst lr
  rw [yr, zr] at Xr
  obtain ⟨rfl, Nqr, Kr, F'⟩ := hQr
  have Or' : Old Z n0 Tr.heap := O.keep Kr (own_all g0)
  have I' := own_inv_root I 2
  have Vg' := Vg.keep Kr (ninS (neg 0) (ninS (neg 1) (ninS (neg 2) (ninS (neg 3) nin0))))
  have Vo' := Vo.keep Kr (ninS (neo 0) (ninS (neo 1) (ninS (neo 2) (ninS (neo 3) nin0))))
  have Vt' := Vt.keep Kr (ninS (net 0) (ninS (net 1) (ninS (net 2) (ninS (net 3) nin0))))
  have Nr := Fr.app N Nqr
  obtain ⟨_, _, ⟨Tx, Lx, kx, nx⟩, -, Xx, ⟨Lcx, hQx, lx, yx, zx⟩, stx⟩ := Jvm.LawKit.callS Xr hx (y := (⟨"com/example/pentad/pentad/tx/TempIdRootPinLaw", "expected", "([I[II)I"⟩ : MethodName)) hown (mvT hZ (hw _ (List.mem_of_getElem? (i := 21) rfl))) (mvT hZ (hw _ (List.mem_of_getElem? (i := 22) rfl))) (mvT hZ (hw _ (List.mem_of_getElem? (i := 23) rfl))) (mvT hZ (hw _ (List.mem_of_getElem? (i := 24) rfl))) (by decide) (backOf (W := 2) (own_expected l Z a0 hw [] g ord gA oA kg ko 2 Tr.heap n0 Or' Vg' Vo') hZ (hw _ (List.mem_of_getElem? (i := 24) rfl)) (hw _ (List.mem_of_getElem? (i := 23) rfl)) (Nat.le_trans (by decide) hrf) (Nat.le_trans (by decide) hrl)) (g := (mkF m 336 #[.val (.int p1), .val (.int p2), .val (.int p3), .val (.int p4), .val (.int p5), .val (.ref oA), .val (.ref tA), .val (.ref gA), .val (.int (own_ix i0)), .val (.int (own_ix i1)), .val (.int (own_ix i2)), .val (.int (own_ix i3)), .val (.int (own_ix i4)), .val (.int (own_ix i5)), .val (.int nn), .val (.int (1 : Int32)), .val (.int (1 : Int32)), .unset, .unset] [(.int (2 : Int32)), (.ref oA), (.ref gA), (.ref tA), (.ref (t (rt 2)))])) rfl (by rw [hml]; rfl) (argsL := [(.ref gA), (.ref oA), (.int (2 : Int32))]) (rest := [(.ref tA), (.ref (t (rt 2)))]) (lenOf pd_5 rfl) rfl (by show 2 * 0 + _ ≤ _; exact Nat.le_of_eq rfl) (hb hby at_336) (fun _ _ => ⟨rfl, rfl, (Nat.le_trans (by omega) hrc : cells + 0 + 0 ≤ R.cells), (Nat.le_trans (by omega) hrs : slots + 0 + 0 ≤ R.slots)⟩)
  dsimp only [Pt.U, Pt.locs, Pt.cells, Pt.slots] at Xx lx yx zx stx hQx
  subst lx
  rw [yx, zx] at Xx
  obtain ⟨rfl, Nqx, ex⟩ := hQx
  have Nx := Fr.app Nr Nqx
  obtain ⟨cl1082, Ar1082, q1082, S1082, M1082, Hs1082, G1082⟩ := id Vt'
  have hin1082 : ¬ ((own_ix (rt 2)) < 0 ∨ cl1082.slots.size ≤ ((own_ix (rt 2))).toNatClampNeg) := inb_of S1082 (own_ixb (rt 2))
  have hat1082 : cl1082.slots[((own_ix (rt 2))).toNatClampNeg]? = some (.ref (t (rt 2))) := Has.at Hs1082 hin1082 (own_getR t (rt 2) _)
  refine ⟨Tx, _, own_set par 2 (rt 2), Xx.more (by omega) (by omega), Nx, ?_, ?_, I', ?_, ?_, ?_, fun target kt => ?_⟩
  · rw [ex]; exact Or'
  · rw [ex]; exact F'
  · rw [ex]; exact Vt'
  · rw [ex]; exact Vg'
  · rw [ex]; exact Vo'
  · show Steps p.tables e below (T.setTop (mkF m 322 #[.val (.int p1), .val (.int p2), .val (.int p3), .val (.int p4), .val (.int p5), .val (.ref oA), .val (.ref tA), .val (.ref gA), .val (.int (own_ix i0)), .val (.int (own_ix i1)), .val (.int (own_ix i2)), .val (.int (own_ix i3)), .val (.int (own_ix i4)), .val (.int (own_ix i5)), .val (.int nn), .val (.int (1 : Int32)), .val (.int (1 : Int32)), .unset, .unset] [])) _
    refine XS.aload X.here hx rfl (hb hby at_322) rfl rfl ?_
    show Steps p.tables e below (T.setTop (mkF m 324 #[.val (.int p1), .val (.int p2), .val (.int p3), .val (.int p4), .val (.int p5), .val (.ref oA), .val (.ref tA), .val (.ref gA), .val (.int (own_ix i0)), .val (.int (own_ix i1)), .val (.int (own_ix i2)), .val (.int (own_ix i3)), .val (.int (own_ix i4)), .val (.int (own_ix i5)), .val (.int nn), .val (.int (1 : Int32)), .val (.int (1 : Int32)), .unset, .unset] [(.ref tA)])) _
    refine XS.iconst X.here hx rfl (hb hby at_324) ?_
    show Steps p.tables e below (T.setTop (mkF m 325 #[.val (.int p1), .val (.int p2), .val (.int p3), .val (.int p4), .val (.int p5), .val (.ref oA), .val (.ref tA), .val (.ref gA), .val (.int (own_ix i0)), .val (.int (own_ix i1)), .val (.int (own_ix i2)), .val (.int (own_ix i3)), .val (.int (own_ix i4)), .val (.int (own_ix i5)), .val (.int nn), .val (.int (1 : Int32)), .val (.int (1 : Int32)), .unset, .unset] [(.int (2 : Int32)), (.ref tA)])) _
    refine X.aaload hx (j := (2 : Int32)) (v := (.ref (t 2))) (by rw [eT]; exact Ar1081.1) (State.isArrayOf_alike hZ.alike Ar1081.2.1) rfl Ar1081.2.2 hin1081 hat1081 (g := (mkF m 325 #[.val (.int p1), .val (.int p2), .val (.int p3), .val (.int p4), .val (.int p5), .val (.ref oA), .val (.ref tA), .val (.ref gA), .val (.int (own_ix i0)), .val (.int (own_ix i1)), .val (.int (own_ix i2)), .val (.int (own_ix i3)), .val (.int (own_ix i4)), .val (.int (own_ix i5)), .val (.int nn), .val (.int (1 : Int32)), .val (.int (1 : Int32)), .unset, .unset] [(.int (2 : Int32)), (.ref tA)])) rfl rfl (hb hby at_325) _ ?_
    show Steps p.tables e below (T.setTop (mkF m 326 #[.val (.int p1), .val (.int p2), .val (.int p3), .val (.int p4), .val (.int p5), .val (.ref oA), .val (.ref tA), .val (.ref gA), .val (.int (own_ix i0)), .val (.int (own_ix i1)), .val (.int (own_ix i2)), .val (.int (own_ix i3)), .val (.int (own_ix i4)), .val (.int (own_ix i5)), .val (.int nn), .val (.int (1 : Int32)), .val (.int (1 : Int32)), .unset, .unset] [(.ref (t 2))])) _
    refine str.trans ?_
    show Steps p.tables e below (Tr.setTop (mkF m 329 #[.val (.int p1), .val (.int p2), .val (.int p3), .val (.int p4), .val (.int p5), .val (.ref oA), .val (.ref tA), .val (.ref gA), .val (.int (own_ix i0)), .val (.int (own_ix i1)), .val (.int (own_ix i2)), .val (.int (own_ix i3)), .val (.int (own_ix i4)), .val (.int (own_ix i5)), .val (.int nn), .val (.int (1 : Int32)), .val (.int (1 : Int32)), .unset, .unset] [(.ref (t (rt 2)))])) _
    refine XS.aload Xr.here hx rfl (hb hby at_329) rfl rfl ?_
    show Steps p.tables e below (Tr.setTop (mkF m 331 #[.val (.int p1), .val (.int p2), .val (.int p3), .val (.int p4), .val (.int p5), .val (.ref oA), .val (.ref tA), .val (.ref gA), .val (.int (own_ix i0)), .val (.int (own_ix i1)), .val (.int (own_ix i2)), .val (.int (own_ix i3)), .val (.int (own_ix i4)), .val (.int (own_ix i5)), .val (.int nn), .val (.int (1 : Int32)), .val (.int (1 : Int32)), .unset, .unset] [(.ref tA), (.ref (t (rt 2)))])) _
    refine XS.aload Xr.here hx rfl (hb hby at_331) rfl rfl ?_
    show Steps p.tables e below (Tr.setTop (mkF m 333 #[.val (.int p1), .val (.int p2), .val (.int p3), .val (.int p4), .val (.int p5), .val (.ref oA), .val (.ref tA), .val (.ref gA), .val (.int (own_ix i0)), .val (.int (own_ix i1)), .val (.int (own_ix i2)), .val (.int (own_ix i3)), .val (.int (own_ix i4)), .val (.int (own_ix i5)), .val (.int nn), .val (.int (1 : Int32)), .val (.int (1 : Int32)), .unset, .unset] [(.ref gA), (.ref tA), (.ref (t (rt 2)))])) _
    refine XS.aload Xr.here hx rfl (hb hby at_333) rfl rfl ?_
    show Steps p.tables e below (Tr.setTop (mkF m 335 #[.val (.int p1), .val (.int p2), .val (.int p3), .val (.int p4), .val (.int p5), .val (.ref oA), .val (.ref tA), .val (.ref gA), .val (.int (own_ix i0)), .val (.int (own_ix i1)), .val (.int (own_ix i2)), .val (.int (own_ix i3)), .val (.int (own_ix i4)), .val (.int (own_ix i5)), .val (.int nn), .val (.int (1 : Int32)), .val (.int (1 : Int32)), .unset, .unset] [(.ref oA), (.ref gA), (.ref tA), (.ref (t (rt 2)))])) _
    refine XS.iconst Xr.here hx rfl (hb hby at_335) ?_
    show Steps p.tables e below (Tr.setTop (mkF m 336 #[.val (.int p1), .val (.int p2), .val (.int p3), .val (.int p4), .val (.int p5), .val (.ref oA), .val (.ref tA), .val (.ref gA), .val (.int (own_ix i0)), .val (.int (own_ix i1)), .val (.int (own_ix i2)), .val (.int (own_ix i3)), .val (.int (own_ix i4)), .val (.int (own_ix i5)), .val (.int nn), .val (.int (1 : Int32)), .val (.int (1 : Int32)), .unset, .unset] [(.int (2 : Int32)), (.ref oA), (.ref gA), (.ref tA), (.ref (t (rt 2)))])) _
    refine stx _ ?_
    show Steps p.tables e below (Tx.setTop (mkF m 339 #[.val (.int p1), .val (.int p2), .val (.int p3), .val (.int p4), .val (.int p5), .val (.ref oA), .val (.ref tA), .val (.ref gA), .val (.int (own_ix i0)), .val (.int (own_ix i1)), .val (.int (own_ix i2)), .val (.int (own_ix i3)), .val (.int (own_ix i4)), .val (.int (own_ix i5)), .val (.int nn), .val (.int (1 : Int32)), .val (.int (1 : Int32)), .unset, .unset] [(.int (own_ix (own_exp g ord 2))), (.ref tA), (.ref (t (rt 2)))])) _
    rw [own_exp_root I H injO 2]
    show Steps p.tables e below (Tx.setTop (mkF m 339 #[.val (.int p1), .val (.int p2), .val (.int p3), .val (.int p4), .val (.int p5), .val (.ref oA), .val (.ref tA), .val (.ref gA), .val (.int (own_ix i0)), .val (.int (own_ix i1)), .val (.int (own_ix i2)), .val (.int (own_ix i3)), .val (.int (own_ix i4)), .val (.int (own_ix i5)), .val (.int nn), .val (.int (1 : Int32)), .val (.int (1 : Int32)), .unset, .unset] [(.int (own_ix (rt 2))), (.ref tA), (.ref (t (rt 2)))])) _
    refine Xx.aaload hx (j := (own_ix (rt 2))) (v := (.ref (t (rt 2)))) (by rw [ex]; exact Ar1082.1) (State.isArrayOf_alike hZ.alike Ar1082.2.1) rfl Ar1082.2.2 hin1082 hat1082 (g := (mkF m 339 #[.val (.int p1), .val (.int p2), .val (.int p3), .val (.int p4), .val (.int p5), .val (.ref oA), .val (.ref tA), .val (.ref gA), .val (.int (own_ix i0)), .val (.int (own_ix i1)), .val (.int (own_ix i2)), .val (.int (own_ix i3)), .val (.int (own_ix i4)), .val (.int (own_ix i5)), .val (.int nn), .val (.int (1 : Int32)), .val (.int (1 : Int32)), .unset, .unset] [(.int (own_ix (rt 2))), (.ref tA), (.ref (t (rt 2)))])) rfl rfl (hb hby at_339) _ ?_
    show Steps p.tables e below (Tx.setTop (mkF m 340 #[.val (.int p1), .val (.int p2), .val (.int p3), .val (.int p4), .val (.int p5), .val (.ref oA), .val (.ref tA), .val (.ref gA), .val (.int (own_ix i0)), .val (.int (own_ix i1)), .val (.int (own_ix i2)), .val (.int (own_ix i3)), .val (.int (own_ix i4)), .val (.int (own_ix i5)), .val (.int nn), .val (.int (1 : Int32)), .val (.int (1 : Int32)), .unset, .unset] [(.ref (t (rt 2))), (.ref (t (rt 2)))])) _
    refine Jvm.RoadKit.acmp (g := (mkF m 340 #[.val (.int p1), .val (.int p2), .val (.int p3), .val (.int p4), .val (.int p5), .val (.ref oA), .val (.ref tA), .val (.ref gA), .val (.int (own_ix i0)), .val (.int (own_ix i1)), .val (.int (own_ix i2)), .val (.int (own_ix i3)), .val (.int (own_ix i4)), .val (.int (own_ix i5)), .val (.int nn), .val (.int (1 : Int32)), .val (.int (1 : Int32)), .unset, .unset] [(.ref (t (rt 2))), (.ref (t (rt 2)))])) Xx hx rfl rfl rfl (pc0 := 340) (pc' := 343) (same := true) rfl (hb hby at_340) rfl (decide_eq_true rfl) (by decide) (by decide) ?_
    show Steps p.tables e below (Tx.setTop (mkF m 343 #[.val (.int p1), .val (.int p2), .val (.int p3), .val (.int p4), .val (.int p5), .val (.ref oA), .val (.ref tA), .val (.ref gA), .val (.int (own_ix i0)), .val (.int (own_ix i1)), .val (.int (own_ix i2)), .val (.int (own_ix i3)), .val (.int (own_ix i4)), .val (.int (own_ix i5)), .val (.int nn), .val (.int (1 : Int32)), .val (.int (1 : Int32)), .unset, .unset] [])) _
    refine XS.iconst Xx.here hx rfl (hb hby at_343) ?_
    show Steps p.tables e below (Tx.setTop (mkF m 344 #[.val (.int p1), .val (.int p2), .val (.int p3), .val (.int p4), .val (.int p5), .val (.ref oA), .val (.ref tA), .val (.ref gA), .val (.int (own_ix i0)), .val (.int (own_ix i1)), .val (.int (own_ix i2)), .val (.int (own_ix i3)), .val (.int (own_ix i4)), .val (.int (own_ix i5)), .val (.int nn), .val (.int (1 : Int32)), .val (.int (1 : Int32)), .unset, .unset] [(.int (1 : Int32))])) _
    refine XS.goto Xx.here hx rfl (pc0 := 344) (pc' := 348) rfl (hb hby at_344) (by decide) (by decide) ?_
    show Steps p.tables e below (Tx.setTop (mkF m 348 #[.val (.int p1), .val (.int p2), .val (.int p3), .val (.int p4), .val (.int p5), .val (.ref oA), .val (.ref tA), .val (.ref gA), .val (.int (own_ix i0)), .val (.int (own_ix i1)), .val (.int (own_ix i2)), .val (.int (own_ix i3)), .val (.int (own_ix i4)), .val (.int (own_ix i5)), .val (.int nn), .val (.int (1 : Int32)), .val (.int (1 : Int32)), .unset, .unset] [(.int (1 : Int32))])) _
    refine XS.istore Xx.here hx rfl (hb hby at_348) rfl (l' := #[.val (.int p1), .val (.int p2), .val (.int p3), .val (.int p4), .val (.int p5), .val (.ref oA), .val (.ref tA), .val (.ref gA), .val (.int (own_ix i0)), .val (.int (own_ix i1)), .val (.int (own_ix i2)), .val (.int (own_ix i3)), .val (.int (own_ix i4)), .val (.int (own_ix i5)), .val (.int nn), .val (.int (1 : Int32)), .val (.int (1 : Int32)), .val (.int (1 : Int32)), .unset]) rfl ?_
    exact kt
set_option maxRecDepth 65536 in
set_option maxHeartbeats 40000000 in
theorem own_fin_3 {p : Program} {l : Launch} {e : Env} {R : Room} {s : State} {m : MethodId} {args : Array Value} {below : List Frame} {meth : Method} {c : Code} {locs : List Loc} {cells slots : Nat} {Z : State} {a0 : Array Value} {h : Heap} {T : State} {n0 : Nat} (hw : ∀ d ∈ tables_1, d.before a0 Z = true) (t : Fin 4 → Addr) (ord : Fin 4 → Int32) (par rt : Fin 4 → Fin 4) (g : Fin 4 → Int32) (i0 i1 i2 i3 i4 i5 : Fin 4) (p1 p2 p3 p4 p5 nn : Int32) {tA gA oA : Addr} {kt kg ko : ClassId} (X : Stand p l e R s m args below meth c T locs cells slots) (hx : p.tables.exec = Jvm.exec) (hZ : Z.Warmed39 s.vm) (hby : c.code = code) (hml : c.maxLocals = 19) (hown : s.vm.findClass "com/example/pentad/pentad/tx/TempIdRootPinLaw" = some m.cls) (eT : T.heap = h) (O : Old Z n0 h) (N : Fr n0 locs) (F : own_For Z h t ord par) (I : own_Inv ord par rt) (inj : ∀ i j, t i = t j → i = j) (g0 : ∀ i, n0 ≤ t i) (injO : ∀ k l, ord k = ord l → k = l) (H : own_Cls g rt) (Vt : Arv Z h tA kt (.object "com/example/pentad/pentad/tx/TempId") (4 : Int32) [.ref (t 0), .ref (t 1), .ref (t 2), .ref (t 3)] .null) (Vg : Arv Z h gA kg .int (4 : Int32) [.int (g 0), .int (g 1), .int (g 2), .int (g 3)] (.int (0 : Int32))) (Vo : Arv Z h oA ko .int (4 : Int32) [.int (ord 0), .int (ord 1), .int (ord 2), .int (ord 3)] (.int (0 : Int32))) (net : ∀ i, tA ≠ t i) (neg : ∀ i, gA ≠ t i) (neo : ∀ i, oA ≠ t i) (netg : tA ≠ gA) (neog : oA ≠ gA) (ggA : n0 ≤ gA) (hrc : cells + 0 ≤ R.cells) (hrs : slots + 0 ≤ R.slots) (hrf : 3 ≤ R.frames) (hrl : 60 ≤ R.locals) : ∃ (T' : State) (L' : List Loc) (par' : Fin 4 → Fin 4), Stand p l e R s m args below meth c T' L' cells slots ∧ Fr n0 L' ∧ Old Z n0 T'.heap ∧ own_For Z T'.heap t ord par' ∧ own_Inv ord par' rt ∧ Arv Z T'.heap tA kt (.object "com/example/pentad/pentad/tx/TempId") (4 : Int32) [.ref (t 0), .ref (t 1), .ref (t 2), .ref (t 3)] .null ∧ Arv Z T'.heap gA kg .int (4 : Int32) [.int (g 0), .int (g 1), .int (g 2), .int (g 3)] (.int (0 : Int32)) ∧ Arv Z T'.heap oA ko .int (4 : Int32) [.int (ord 0), .int (ord 1), .int (ord 2), .int (ord 3)] (.int (0 : Int32)) ∧ ∀ target, Steps p.tables e below (T'.setTop (mkF m 378 #[.val (.int p1), .val (.int p2), .val (.int p3), .val (.int p4), .val (.int p5), .val (.ref oA), .val (.ref tA), .val (.ref gA), .val (.int (own_ix i0)), .val (.int (own_ix i1)), .val (.int (own_ix i2)), .val (.int (own_ix i3)), .val (.int (own_ix i4)), .val (.int (own_ix i5)), .val (.int nn), .val (.int (1 : Int32)), .val (.int (1 : Int32)), .val (.int (1 : Int32)), .val (.int (1 : Int32))] [])) target → Steps p.tables e below (T.setTop (mkF m 350 #[.val (.int p1), .val (.int p2), .val (.int p3), .val (.int p4), .val (.int p5), .val (.ref oA), .val (.ref tA), .val (.ref gA), .val (.int (own_ix i0)), .val (.int (own_ix i1)), .val (.int (own_ix i2)), .val (.int (own_ix i3)), .val (.int (own_ix i4)), .val (.int (own_ix i5)), .val (.int nn), .val (.int (1 : Int32)), .val (.int (1 : Int32)), .val (.int (1 : Int32)), .unset] [])) target := by
  obtain ⟨cl1083, Ar1083, q1083, S1083, M1083, Hs1083, G1083⟩ := id Vt
  have hin1083 : ¬ ((3 : Int32) < 0 ∨ cl1083.slots.size ≤ ((3 : Int32)).toNatClampNeg) := inb_of S1083 ⟨by decide, by decide⟩
  have hat1083 : cl1083.slots[((3 : Int32)).toNatClampNeg]? = some (.ref (t 3)) := Has.at Hs1083 hin1083 rfl
  obtain ⟨cqr, kqr, qra, qrb, qrc⟩ := isOf hZ eT (F.1 3)
  obtain ⟨_, _, ⟨Tr, Lr, kr, nr⟩, -, Xr, ⟨Lcr, hQr, lr, yr, zr⟩, str⟩ := X.virtualBack hx (y := (⟨"com/example/pentad/pentad/tx/TempId", "root", "()Lcom/example/pentad/pentad/tx/TempId;"⟩ : MethodName)) (z := (⟨"com/example/pentad/pentad/tx/TempId", "root", "()Lcom/example/pentad/pentad/tx/TempId;"⟩ : MethodName)) hown (mvT hZ (hw _ (List.mem_of_getElem? (i := 16) rfl))) (mvT hZ (hw _ (List.mem_of_getElem? (i := 17) rfl))) (notFace_of_selects (args := #[]) (mvT hZ (hw _ (List.mem_of_getElem? (i := 19) rfl)))) (mvT hZ (hw _ (List.mem_of_getElem? (i := 19) rfl))) (mvT hZ (hw _ (List.mem_of_getElem? (i := 18) rfl))) (by decide) (backOf (W := 0) (own_root l Z a0 hw [] t ord par rt 3 h n0 O F I inj g0) hZ (hw _ (List.mem_of_getElem? (i := 20) rfl)) (hw _ (List.mem_of_getElem? (i := 4) rfl)) (Nat.le_trans (by decide) hrf) (Nat.le_trans (by decide) hrl)) qra qrc (g := (mkF m 354 #[.val (.int p1), .val (.int p2), .val (.int p3), .val (.int p4), .val (.int p5), .val (.ref oA), .val (.ref tA), .val (.ref gA), .val (.int (own_ix i0)), .val (.int (own_ix i1)), .val (.int (own_ix i2)), .val (.int (own_ix i3)), .val (.int (own_ix i4)), .val (.int (own_ix i5)), .val (.int nn), .val (.int (1 : Int32)), .val (.int (1 : Int32)), .val (.int (1 : Int32)), .unset] [(.ref (t 3))])) rfl (by rw [hml]; rfl) (Steps.refl _) (argsL := []) (rest := []) (lenOf pd_1 rfl) rfl (by show 2 * 0 + _ ≤ _; exact Nat.le_of_eq rfl) (hb hby at_354) (fun _ _ => ⟨rfl, eT, (Nat.le_trans (by omega) hrc : cells + 0 ≤ R.cells), (Nat.le_trans (by omega) hrs : slots + 0 ≤ R.slots)⟩)
  dsimp only [Pt.U, Pt.locs, Pt.cells, Pt.slots] at Xr lr yr zr str hQr
  subst lr
  rw [yr, zr] at Xr
  obtain ⟨rfl, Nqr, Kr, F'⟩ := hQr
  have Or' : Old Z n0 Tr.heap := O.keep Kr (own_all g0)
  have I' := own_inv_root I 3
  have Vg' := Vg.keep Kr (ninS (neg 0) (ninS (neg 1) (ninS (neg 2) (ninS (neg 3) nin0))))
  have Vo' := Vo.keep Kr (ninS (neo 0) (ninS (neo 1) (ninS (neo 2) (ninS (neo 3) nin0))))
  have Vt' := Vt.keep Kr (ninS (net 0) (ninS (net 1) (ninS (net 2) (ninS (net 3) nin0))))
  have Nr := Fr.app N Nqr
  obtain ⟨_, _, ⟨Tx, Lx, kx, nx⟩, -, Xx, ⟨Lcx, hQx, lx, yx, zx⟩, stx⟩ := Jvm.LawKit.callS Xr hx (y := (⟨"com/example/pentad/pentad/tx/TempIdRootPinLaw", "expected", "([I[II)I"⟩ : MethodName)) hown (mvT hZ (hw _ (List.mem_of_getElem? (i := 21) rfl))) (mvT hZ (hw _ (List.mem_of_getElem? (i := 22) rfl))) (mvT hZ (hw _ (List.mem_of_getElem? (i := 23) rfl))) (mvT hZ (hw _ (List.mem_of_getElem? (i := 24) rfl))) (by decide) (backOf (W := 2) (own_expected l Z a0 hw [] g ord gA oA kg ko 3 Tr.heap n0 Or' Vg' Vo') hZ (hw _ (List.mem_of_getElem? (i := 24) rfl)) (hw _ (List.mem_of_getElem? (i := 23) rfl)) (Nat.le_trans (by decide) hrf) (Nat.le_trans (by decide) hrl)) (g := (mkF m 364 #[.val (.int p1), .val (.int p2), .val (.int p3), .val (.int p4), .val (.int p5), .val (.ref oA), .val (.ref tA), .val (.ref gA), .val (.int (own_ix i0)), .val (.int (own_ix i1)), .val (.int (own_ix i2)), .val (.int (own_ix i3)), .val (.int (own_ix i4)), .val (.int (own_ix i5)), .val (.int nn), .val (.int (1 : Int32)), .val (.int (1 : Int32)), .val (.int (1 : Int32)), .unset] [(.int (3 : Int32)), (.ref oA), (.ref gA), (.ref tA), (.ref (t (rt 3)))])) rfl (by rw [hml]; rfl) (argsL := [(.ref gA), (.ref oA), (.int (3 : Int32))]) (rest := [(.ref tA), (.ref (t (rt 3)))]) (lenOf pd_5 rfl) rfl (by show 2 * 0 + _ ≤ _; exact Nat.le_of_eq rfl) (hb hby at_364) (fun _ _ => ⟨rfl, rfl, (Nat.le_trans (by omega) hrc : cells + 0 + 0 ≤ R.cells), (Nat.le_trans (by omega) hrs : slots + 0 + 0 ≤ R.slots)⟩)
  dsimp only [Pt.U, Pt.locs, Pt.cells, Pt.slots] at Xx lx yx zx stx hQx
  subst lx
  rw [yx, zx] at Xx
  obtain ⟨rfl, Nqx, ex⟩ := hQx
  have Nx := Fr.app Nr Nqx
  obtain ⟨cl1084, Ar1084, q1084, S1084, M1084, Hs1084, G1084⟩ := id Vt'
  have hin1084 : ¬ ((own_ix (rt 3)) < 0 ∨ cl1084.slots.size ≤ ((own_ix (rt 3))).toNatClampNeg) := inb_of S1084 (own_ixb (rt 3))
  have hat1084 : cl1084.slots[((own_ix (rt 3))).toNatClampNeg]? = some (.ref (t (rt 3))) := Has.at Hs1084 hin1084 (own_getR t (rt 3) _)
  refine ⟨Tx, _, own_set par 3 (rt 3), Xx.more (by omega) (by omega), Nx, ?_, ?_, I', ?_, ?_, ?_, fun target kt => ?_⟩
  · rw [ex]; exact Or'
  · rw [ex]; exact F'
  · rw [ex]; exact Vt'
  · rw [ex]; exact Vg'
  · rw [ex]; exact Vo'
  · show Steps p.tables e below (T.setTop (mkF m 350 #[.val (.int p1), .val (.int p2), .val (.int p3), .val (.int p4), .val (.int p5), .val (.ref oA), .val (.ref tA), .val (.ref gA), .val (.int (own_ix i0)), .val (.int (own_ix i1)), .val (.int (own_ix i2)), .val (.int (own_ix i3)), .val (.int (own_ix i4)), .val (.int (own_ix i5)), .val (.int nn), .val (.int (1 : Int32)), .val (.int (1 : Int32)), .val (.int (1 : Int32)), .unset] [])) _
    refine XS.aload X.here hx rfl (hb hby at_350) rfl rfl ?_
    show Steps p.tables e below (T.setTop (mkF m 352 #[.val (.int p1), .val (.int p2), .val (.int p3), .val (.int p4), .val (.int p5), .val (.ref oA), .val (.ref tA), .val (.ref gA), .val (.int (own_ix i0)), .val (.int (own_ix i1)), .val (.int (own_ix i2)), .val (.int (own_ix i3)), .val (.int (own_ix i4)), .val (.int (own_ix i5)), .val (.int nn), .val (.int (1 : Int32)), .val (.int (1 : Int32)), .val (.int (1 : Int32)), .unset] [(.ref tA)])) _
    refine XS.iconst X.here hx rfl (hb hby at_352) ?_
    show Steps p.tables e below (T.setTop (mkF m 353 #[.val (.int p1), .val (.int p2), .val (.int p3), .val (.int p4), .val (.int p5), .val (.ref oA), .val (.ref tA), .val (.ref gA), .val (.int (own_ix i0)), .val (.int (own_ix i1)), .val (.int (own_ix i2)), .val (.int (own_ix i3)), .val (.int (own_ix i4)), .val (.int (own_ix i5)), .val (.int nn), .val (.int (1 : Int32)), .val (.int (1 : Int32)), .val (.int (1 : Int32)), .unset] [(.int (3 : Int32)), (.ref tA)])) _
    refine X.aaload hx (j := (3 : Int32)) (v := (.ref (t 3))) (by rw [eT]; exact Ar1083.1) (State.isArrayOf_alike hZ.alike Ar1083.2.1) rfl Ar1083.2.2 hin1083 hat1083 (g := (mkF m 353 #[.val (.int p1), .val (.int p2), .val (.int p3), .val (.int p4), .val (.int p5), .val (.ref oA), .val (.ref tA), .val (.ref gA), .val (.int (own_ix i0)), .val (.int (own_ix i1)), .val (.int (own_ix i2)), .val (.int (own_ix i3)), .val (.int (own_ix i4)), .val (.int (own_ix i5)), .val (.int nn), .val (.int (1 : Int32)), .val (.int (1 : Int32)), .val (.int (1 : Int32)), .unset] [(.int (3 : Int32)), (.ref tA)])) rfl rfl (hb hby at_353) _ ?_
    show Steps p.tables e below (T.setTop (mkF m 354 #[.val (.int p1), .val (.int p2), .val (.int p3), .val (.int p4), .val (.int p5), .val (.ref oA), .val (.ref tA), .val (.ref gA), .val (.int (own_ix i0)), .val (.int (own_ix i1)), .val (.int (own_ix i2)), .val (.int (own_ix i3)), .val (.int (own_ix i4)), .val (.int (own_ix i5)), .val (.int nn), .val (.int (1 : Int32)), .val (.int (1 : Int32)), .val (.int (1 : Int32)), .unset] [(.ref (t 3))])) _
    refine str.trans ?_
    show Steps p.tables e below (Tr.setTop (mkF m 357 #[.val (.int p1), .val (.int p2), .val (.int p3), .val (.int p4), .val (.int p5), .val (.ref oA), .val (.ref tA), .val (.ref gA), .val (.int (own_ix i0)), .val (.int (own_ix i1)), .val (.int (own_ix i2)), .val (.int (own_ix i3)), .val (.int (own_ix i4)), .val (.int (own_ix i5)), .val (.int nn), .val (.int (1 : Int32)), .val (.int (1 : Int32)), .val (.int (1 : Int32)), .unset] [(.ref (t (rt 3)))])) _
    refine XS.aload Xr.here hx rfl (hb hby at_357) rfl rfl ?_
    show Steps p.tables e below (Tr.setTop (mkF m 359 #[.val (.int p1), .val (.int p2), .val (.int p3), .val (.int p4), .val (.int p5), .val (.ref oA), .val (.ref tA), .val (.ref gA), .val (.int (own_ix i0)), .val (.int (own_ix i1)), .val (.int (own_ix i2)), .val (.int (own_ix i3)), .val (.int (own_ix i4)), .val (.int (own_ix i5)), .val (.int nn), .val (.int (1 : Int32)), .val (.int (1 : Int32)), .val (.int (1 : Int32)), .unset] [(.ref tA), (.ref (t (rt 3)))])) _
    refine XS.aload Xr.here hx rfl (hb hby at_359) rfl rfl ?_
    show Steps p.tables e below (Tr.setTop (mkF m 361 #[.val (.int p1), .val (.int p2), .val (.int p3), .val (.int p4), .val (.int p5), .val (.ref oA), .val (.ref tA), .val (.ref gA), .val (.int (own_ix i0)), .val (.int (own_ix i1)), .val (.int (own_ix i2)), .val (.int (own_ix i3)), .val (.int (own_ix i4)), .val (.int (own_ix i5)), .val (.int nn), .val (.int (1 : Int32)), .val (.int (1 : Int32)), .val (.int (1 : Int32)), .unset] [(.ref gA), (.ref tA), (.ref (t (rt 3)))])) _
    refine XS.aload Xr.here hx rfl (hb hby at_361) rfl rfl ?_
    show Steps p.tables e below (Tr.setTop (mkF m 363 #[.val (.int p1), .val (.int p2), .val (.int p3), .val (.int p4), .val (.int p5), .val (.ref oA), .val (.ref tA), .val (.ref gA), .val (.int (own_ix i0)), .val (.int (own_ix i1)), .val (.int (own_ix i2)), .val (.int (own_ix i3)), .val (.int (own_ix i4)), .val (.int (own_ix i5)), .val (.int nn), .val (.int (1 : Int32)), .val (.int (1 : Int32)), .val (.int (1 : Int32)), .unset] [(.ref oA), (.ref gA), (.ref tA), (.ref (t (rt 3)))])) _
    refine XS.iconst Xr.here hx rfl (hb hby at_363) ?_
    show Steps p.tables e below (Tr.setTop (mkF m 364 #[.val (.int p1), .val (.int p2), .val (.int p3), .val (.int p4), .val (.int p5), .val (.ref oA), .val (.ref tA), .val (.ref gA), .val (.int (own_ix i0)), .val (.int (own_ix i1)), .val (.int (own_ix i2)), .val (.int (own_ix i3)), .val (.int (own_ix i4)), .val (.int (own_ix i5)), .val (.int nn), .val (.int (1 : Int32)), .val (.int (1 : Int32)), .val (.int (1 : Int32)), .unset] [(.int (3 : Int32)), (.ref oA), (.ref gA), (.ref tA), (.ref (t (rt 3)))])) _
    refine stx _ ?_
    show Steps p.tables e below (Tx.setTop (mkF m 367 #[.val (.int p1), .val (.int p2), .val (.int p3), .val (.int p4), .val (.int p5), .val (.ref oA), .val (.ref tA), .val (.ref gA), .val (.int (own_ix i0)), .val (.int (own_ix i1)), .val (.int (own_ix i2)), .val (.int (own_ix i3)), .val (.int (own_ix i4)), .val (.int (own_ix i5)), .val (.int nn), .val (.int (1 : Int32)), .val (.int (1 : Int32)), .val (.int (1 : Int32)), .unset] [(.int (own_ix (own_exp g ord 3))), (.ref tA), (.ref (t (rt 3)))])) _
    rw [own_exp_root I H injO 3]
    show Steps p.tables e below (Tx.setTop (mkF m 367 #[.val (.int p1), .val (.int p2), .val (.int p3), .val (.int p4), .val (.int p5), .val (.ref oA), .val (.ref tA), .val (.ref gA), .val (.int (own_ix i0)), .val (.int (own_ix i1)), .val (.int (own_ix i2)), .val (.int (own_ix i3)), .val (.int (own_ix i4)), .val (.int (own_ix i5)), .val (.int nn), .val (.int (1 : Int32)), .val (.int (1 : Int32)), .val (.int (1 : Int32)), .unset] [(.int (own_ix (rt 3))), (.ref tA), (.ref (t (rt 3)))])) _
    refine Xx.aaload hx (j := (own_ix (rt 3))) (v := (.ref (t (rt 3)))) (by rw [ex]; exact Ar1084.1) (State.isArrayOf_alike hZ.alike Ar1084.2.1) rfl Ar1084.2.2 hin1084 hat1084 (g := (mkF m 367 #[.val (.int p1), .val (.int p2), .val (.int p3), .val (.int p4), .val (.int p5), .val (.ref oA), .val (.ref tA), .val (.ref gA), .val (.int (own_ix i0)), .val (.int (own_ix i1)), .val (.int (own_ix i2)), .val (.int (own_ix i3)), .val (.int (own_ix i4)), .val (.int (own_ix i5)), .val (.int nn), .val (.int (1 : Int32)), .val (.int (1 : Int32)), .val (.int (1 : Int32)), .unset] [(.int (own_ix (rt 3))), (.ref tA), (.ref (t (rt 3)))])) rfl rfl (hb hby at_367) _ ?_
    show Steps p.tables e below (Tx.setTop (mkF m 368 #[.val (.int p1), .val (.int p2), .val (.int p3), .val (.int p4), .val (.int p5), .val (.ref oA), .val (.ref tA), .val (.ref gA), .val (.int (own_ix i0)), .val (.int (own_ix i1)), .val (.int (own_ix i2)), .val (.int (own_ix i3)), .val (.int (own_ix i4)), .val (.int (own_ix i5)), .val (.int nn), .val (.int (1 : Int32)), .val (.int (1 : Int32)), .val (.int (1 : Int32)), .unset] [(.ref (t (rt 3))), (.ref (t (rt 3)))])) _
    refine Jvm.RoadKit.acmp (g := (mkF m 368 #[.val (.int p1), .val (.int p2), .val (.int p3), .val (.int p4), .val (.int p5), .val (.ref oA), .val (.ref tA), .val (.ref gA), .val (.int (own_ix i0)), .val (.int (own_ix i1)), .val (.int (own_ix i2)), .val (.int (own_ix i3)), .val (.int (own_ix i4)), .val (.int (own_ix i5)), .val (.int nn), .val (.int (1 : Int32)), .val (.int (1 : Int32)), .val (.int (1 : Int32)), .unset] [(.ref (t (rt 3))), (.ref (t (rt 3)))])) Xx hx rfl rfl rfl (pc0 := 368) (pc' := 371) (same := true) rfl (hb hby at_368) rfl (decide_eq_true rfl) (by decide) (by decide) ?_
    show Steps p.tables e below (Tx.setTop (mkF m 371 #[.val (.int p1), .val (.int p2), .val (.int p3), .val (.int p4), .val (.int p5), .val (.ref oA), .val (.ref tA), .val (.ref gA), .val (.int (own_ix i0)), .val (.int (own_ix i1)), .val (.int (own_ix i2)), .val (.int (own_ix i3)), .val (.int (own_ix i4)), .val (.int (own_ix i5)), .val (.int nn), .val (.int (1 : Int32)), .val (.int (1 : Int32)), .val (.int (1 : Int32)), .unset] [])) _
    refine XS.iconst Xx.here hx rfl (hb hby at_371) ?_
    show Steps p.tables e below (Tx.setTop (mkF m 372 #[.val (.int p1), .val (.int p2), .val (.int p3), .val (.int p4), .val (.int p5), .val (.ref oA), .val (.ref tA), .val (.ref gA), .val (.int (own_ix i0)), .val (.int (own_ix i1)), .val (.int (own_ix i2)), .val (.int (own_ix i3)), .val (.int (own_ix i4)), .val (.int (own_ix i5)), .val (.int nn), .val (.int (1 : Int32)), .val (.int (1 : Int32)), .val (.int (1 : Int32)), .unset] [(.int (1 : Int32))])) _
    refine XS.goto Xx.here hx rfl (pc0 := 372) (pc' := 376) rfl (hb hby at_372) (by decide) (by decide) ?_
    show Steps p.tables e below (Tx.setTop (mkF m 376 #[.val (.int p1), .val (.int p2), .val (.int p3), .val (.int p4), .val (.int p5), .val (.ref oA), .val (.ref tA), .val (.ref gA), .val (.int (own_ix i0)), .val (.int (own_ix i1)), .val (.int (own_ix i2)), .val (.int (own_ix i3)), .val (.int (own_ix i4)), .val (.int (own_ix i5)), .val (.int nn), .val (.int (1 : Int32)), .val (.int (1 : Int32)), .val (.int (1 : Int32)), .unset] [(.int (1 : Int32))])) _
    refine XS.istore Xx.here hx rfl (hb hby at_376) rfl (l' := #[.val (.int p1), .val (.int p2), .val (.int p3), .val (.int p4), .val (.int p5), .val (.ref oA), .val (.ref tA), .val (.ref gA), .val (.int (own_ix i0)), .val (.int (own_ix i1)), .val (.int (own_ix i2)), .val (.int (own_ix i3)), .val (.int (own_ix i4)), .val (.int (own_ix i5)), .val (.int nn), .val (.int (1 : Int32)), .val (.int (1 : Int32)), .val (.int (1 : Int32)), .val (.int (1 : Int32))]) rfl ?_
    exact kt
theorem own_inj4 {α : Type} {a b c d : α} (h1 : a ≠ b) (h2 : a ≠ c) (h3 : a ≠ d) (h4 : b ≠ c) (h5 : b ≠ d) (h6 : c ≠ d) : ∀ i j, own_f4 a b c d i = own_f4 a b c d j → i = j := by
  intro i j h
  have e0 : own_f4 a b c d 0 = a := rfl
  have e1 : own_f4 a b c d 1 = b := rfl
  have e2 : own_f4 a b c d 2 = c := rfl
  have e3 : own_f4 a b c d 3 = d := rfl
  rcases own_fin4 i with rfl | rfl | rfl | rfl <;> rcases own_fin4 j with rfl | rfl | rfl | rfl <;> first | rfl | (exfalso; simp only [e0, e1, e2, e3] at h; first | exact h1 h | exact h2 h | exact h3 h | exact h4 h | exact h5 h | exact h6 h | exact h1 h.symm | exact h2 h.symm | exact h3 h.symm | exact h4 h.symm | exact h5 h.symm | exact h6 h.symm)
theorem own_all4 {P : Fin 4 → Prop} (h0 : P 0) (h1 : P 1) (h2 : P 2) (h3 : P 3) : ∀ i, P i := by
  intro i
  rcases own_fin4 i with rfl | rfl | rfl | rfl
  · exact h0
  · exact h1
  · exact h2
  · exact h3
theorem own_cls0 : own_Cls (own_f4 (0 : Int32) 1 2 3) (fun i => i) := fun k l => ⟨fun h => own_inj4 (by decide) (by decide) (by decide) (by decide) (by decide) (by decide) k l h, fun h => congrArg _ h⟩
theorem d1_0 : decode prog_90_method_1_code 0 = .ok (.aload_n 0, 1) := by decide +kernel
theorem d1_1 : decode prog_90_method_1_code 1 = .ok (.invokespecial 1, 3) := by decide +kernel
theorem d1_4 : decode prog_90_method_1_code 4 = .ok (.aload_n 0, 1) := by decide +kernel
theorem d1_5 : decode prog_90_method_1_code 5 = .ok (.aload_n 0, 1) := by decide +kernel
theorem d1_6 : decode prog_90_method_1_code 6 = .ok (.putfield 7, 3) := by decide +kernel
theorem d1_9 : decode prog_90_method_1_code 9 = .ok (.aload_n 0, 1) := by decide +kernel
theorem d1_10 : decode prog_90_method_1_code 10 = .ok (.iload_n 1, 1) := by decide +kernel
theorem d1_11 : decode prog_90_method_1_code 11 = .ok (.putfield 13, 3) := by decide +kernel
theorem d1_14 : decode prog_90_method_1_code 14 = .ok (.return_, 1) := by decide +kernel
theorem ef_1_RI (m : MethodId) (x0 : Addr) (x1 : Int32) : entryFrame m #[(.ref x0), (.int x1)] 2 = mkF m 0 #[.val (.ref x0), .val (.int x1)] [] := by first | (simp [entryFrame, mkF, argsToLocals, Value.category]; done) | rfl
def Qrm1 (Z : State) (a1 : Addr) (p2 : Int32) (h0 : Heap) (n0 : Nat) (v : Option Value) (h : Heap) (L : List Loc) : Prop := v = none ∧ Fr n0 L ∧ Keep h0 h [a1] ∧ Exa Z h a1 "com/example/pentad/pentad/tx/TempId" ∧ Fld Z h a1 "com/example/pentad/pentad/tx/TempId" "parent" "Lcom/example/pentad/pentad/tx/TempId;" (.ref a1) ∧ Fld Z h a1 "com/example/pentad/pentad/tx/TempId" "order" "I" (.int p2)
set_option maxRecDepth 65536 in
set_option maxHeartbeats 40000000 in
theorem rm1 (l : Launch) (Z : State) (a0 : Array Value) (hw : ∀ d ∈ tables_1, d.before a0 Z = true) (ws : List Jvm.Cond) (a1 : Addr) (p2 : Int32) (h0 : Heap) (n0 : Nat) (O0 : Old Z n0 h0) (E_4 : Exa Z h0 a1 "com/example/pentad/pentad/tx/TempId") (F_5 : Fld Z h0 a1 "com/example/pentad/pentad/tx/TempId" "parent" "Lcom/example/pentad/pentad/tx/TempId;" .null) (g_a1 : n0 ≤ a1) (F_7 : Fld Z h0 a1 "com/example/pentad/pentad/tx/TempId" "order" "I" (.int (0 : Int32))) :
    MetFree l (⟨"com/example/pentad/pentad/tx/TempId", "<init>", "(I)V"⟩ : MethodName) (head1 (Jvm.Cond.code (⟨"com/example/pentad/pentad/tx/TempId", "<init>", "(I)V"⟩ : MethodName) prog_90_method_1_code 2 none :: ws) ({ frames := 1, cells := 0, slots := 0, locals := 12 } : Room)) (fun a U => a = #[(.ref a1), (.int p2)] ∧ Z.Warmed39 U.vm ∧ U.heap = h0) (fun _ _ _ _ _ => True) (fun _ U o U' => ∃ v L, o = .returned v ∧ Qrm1 Z a1 p2 h0 n0 v U'.heap L ∧ FrameEnd U o U' L ({ frames := 1, cells := 0, slots := 0, locals := 12 } : Room).cells ({ frames := 1, cells := 0, slots := 0, locals := 12 } : Room).slots) := by
  refine MetFree.of_bodySF (plainFor_of_name pn_0) hisR ?_
  intro p e s m args below meth c s₁ Bd hml0 hP hK
  obtain ⟨rfl, hZ, hh⟩ := hP
  have hx := Bd.exec
  have hby := Bd.bytes
  have hml : c.maxLocals = 2 := hml0
  have hown : s.vm.findClass "com/example/pentad/pentad/tx/TempId" = some m.cls := findClass_of_methodNamed Bd.named
  have hnm := (name_of_methodNamed Bd.named Bd.method).1
  have X0 : Stand p l e ({ frames := 1, cells := 0, slots := 0, locals := 12 } : Room) s m #[(.ref a1), (.int p2)] below meth c s₁ [] 0 0 := Stand.of_body Bd
  have e0 : s₁.heap = h0 := by rw [← hh, Bd.state]; rfl
  have N0 := Fr.nil n0
  have pre0 : ∀ t, Steps p.tables e below (s₁.setTop (mkF m 0 #[.val (.ref a1), .val (.int p2)] [])) t → Steps p.tables e below (s₁.setTop (entryFrame m #[(.ref a1), (.int p2)] 2)) t := fun t k => castTop (ef_1_RI m a1 p2) k
  obtain ⟨T3, X3, e3, st3⟩ := initO X0 hx hZ hown (hw _ (List.mem_of_getElem? (i := 8) rfl)) (hw _ (List.mem_of_getElem? (i := 9) rfl)) (hw _ (List.mem_of_getElem? (i := 10) rfl)) e0 (g := (mkF m 1 #[.val (.ref a1), .val (.int p2)] [(.ref a1)])) rfl (by rw [hml]; rfl) rfl (hb hby d1_1) (by decide) (W := 0) (by show 2 * 0 + _ ≤ _; exact Nat.le_of_eq rfl) (by decide)
  obtain ⟨T6, h6, X6, e6, W6, st6⟩ := putF X3 hx hZ hown (host := "") (Or.inl (hw _ (List.mem_of_getElem? (i := 11) rfl))) Via.refl e3 F_5 E_4 (Or.inl (hw _ (List.mem_of_getElem? (i := 12) rfl))) (hw _ (List.mem_of_getElem? (i := 3) rfl)) (ty := (.object "com/example/pentad/pentad/tx/TempId")) (by decide) rfl rfl (g := (mkF m 6 #[.val (.ref a1), .val (.int p2)] [(.ref a1), (.ref a1)])) rfl rfl (hb hby d1_6)
  have K6 : Keep h0 h6 [a1] := (Keep.refl h0 [a1]).wr W6 (Or.inl (List.mem_of_getElem? (i := 0) rfl))
  have O6 : Old Z n0 h6 := O0.wr W6 g_a1
  have N6 := Fr.snoc X6 N0 g_a1
  have Fw6 : Fld Z h6 a1 "com/example/pentad/pentad/tx/TempId" "parent" "Lcom/example/pentad/pentad/tx/TempId;" (.ref a1) := F_5.same W6
  have f8 : Fld Z h6 a1 "com/example/pentad/pentad/tx/TempId" "order" "I" (.int (0 : Int32)) := (F_7.other W6 (Or.inr (slot_ne (Or.inr (hw _ (List.mem_of_getElem? (i := 14) rfl))) (Or.inl (hw _ (List.mem_of_getElem? (i := 12) rfl))) (by decide) (t := .int) (t' := (.object "com/example/pentad/pentad/tx/TempId")) (by decide) (by decide))))
  have f9 : Exa Z h6 a1 "com/example/pentad/pentad/tx/TempId" := (E_4.wr W6)
  obtain ⟨T10, h10, X10, e10, W10, st10⟩ := putF X6 hx hZ hown (host := "") (Or.inl (hw _ (List.mem_of_getElem? (i := 13) rfl))) Via.refl e6 f8 f9 (Or.inr ⟨(hw _ (List.mem_of_getElem? (i := 14) rfl)), rfl, hnm⟩) (hw _ (List.mem_of_getElem? (i := 3) rfl)) (ty := .int) (by decide) rfl rfl (g := (mkF m 11 #[.val (.ref a1), .val (.int p2)] [(.int p2), (.ref a1)])) rfl rfl (hb hby d1_11)
  have K10 : Keep h0 h10 [a1] := K6.wr W10 (Or.inl (List.mem_of_getElem? (i := 0) rfl))
  have O10 : Old Z n0 h10 := O6.wr W10 g_a1
  have N10 := Fr.snoc X10 N6 g_a1
  have Fw10 : Fld Z h10 a1 "com/example/pentad/pentad/tx/TempId" "order" "I" (.int p2) := f8.same W10
  have f11 : Exa Z h10 a1 "com/example/pentad/pentad/tx/TempId" := (f9.wr W10)
  have f12 : Fld Z h10 a1 "com/example/pentad/pentad/tx/TempId" "parent" "Lcom/example/pentad/pentad/tx/TempId;" (.ref a1) := (Fw6.other W10 (Or.inr (slot_ne (Or.inl (hw _ (List.mem_of_getElem? (i := 12) rfl))) (Or.inr (hw _ (List.mem_of_getElem? (i := 14) rfl))) (by decide) (t := (.object "com/example/pentad/pentad/tx/TempId")) (t' := .int) (by decide) (by decide))))
  obtain ⟨fs, hr, hrun, hended, hW, hsame⟩ := X10.leave (v := none) (fun _ => rfl)
  refine ⟨_, _, pre0 _ ?_, hrun, hended, _, _, rfl, ?_, ⟨_, rfl⟩, hW, hsame.mono (by decide) (by decide)⟩
  · show Steps p.tables e below (s₁.setTop (mkF m 0 #[.val (.ref a1), .val (.int p2)] [])) _
    refine XS.aloadN X0.here hx rfl (hb hby d1_0) rfl rfl ?_
    show Steps p.tables e below (s₁.setTop (mkF m 1 #[.val (.ref a1), .val (.int p2)] [(.ref a1)])) _
    refine st3 _ ?_
    show Steps p.tables e below (T3.setTop (mkF m 4 #[.val (.ref a1), .val (.int p2)] [])) _
    refine XS.aloadN X3.here hx rfl (hb hby d1_4) rfl rfl ?_
    show Steps p.tables e below (T3.setTop (mkF m 5 #[.val (.ref a1), .val (.int p2)] [(.ref a1)])) _
    refine XS.aloadN X3.here hx rfl (hb hby d1_5) rfl rfl ?_
    show Steps p.tables e below (T3.setTop (mkF m 6 #[.val (.ref a1), .val (.int p2)] [(.ref a1), (.ref a1)])) _
    refine st6 _ ?_
    show Steps p.tables e below (T6.setTop (mkF m 9 #[.val (.ref a1), .val (.int p2)] [])) _
    refine XS.aloadN X6.here hx rfl (hb hby d1_9) rfl rfl ?_
    show Steps p.tables e below (T6.setTop (mkF m 10 #[.val (.ref a1), .val (.int p2)] [(.ref a1)])) _
    refine XS.iloadN X6.here hx rfl (hb hby d1_10) rfl ?_
    show Steps p.tables e below (T6.setTop (mkF m 11 #[.val (.ref a1), .val (.int p2)] [(.int p2), (.ref a1)])) _
    refine st10 _ ?_
    show Steps p.tables e below (T10.setTop (mkF m 14 #[.val (.ref a1), .val (.int p2)] [])) _
    exact X10.returnOut hx Bd.returns (hb hby d1_14) hr
  · show Qrm1 Z a1 p2 h0 n0 _ T10.heap _
    rw [e10]
    exact ⟨rfl, N10, K10, f11, f12, Fw10⟩
theorem pd_6 : parseMethodDescriptor "(I)V" = some ⟨[.int], none⟩ := by decide +kernel
theorem ef_0_IIIII (m : MethodId) (x0 : Int32) (x1 : Int32) (x2 : Int32) (x3 : Int32) (x4 : Int32) : entryFrame m #[(.int x0), (.int x1), (.int x2), (.int x3), (.int x4)] maxLocals = mkF m 0 #[.val (.int x0), .val (.int x1), .val (.int x2), .val (.int x3), .val (.int x4), .unset, .unset, .unset, .unset, .unset, .unset, .unset, .unset, .unset, .unset, .unset, .unset, .unset, .unset] [] := by first | (simp [entryFrame, mkF, argsToLocals, Value.category, maxLocals]; done) | rfl
def Qrm0 (Z : State) (p1 : Int32) (p2 : Int32) (p3 : Int32) (p4 : Int32) (p5 : Int32) (h0 : Heap) (n0 : Nat) (v : Option Value) (h : Heap) (L : List Loc) : Prop := v = some (.int (1 : Int32)) ∧ Fr n0 L
set_option maxRecDepth 65536 in
set_option maxHeartbeats 40000000 in
theorem rm0 (l : Launch) (Z : State) (a0 : Array Value) (hw : ∀ d ∈ tables_1, d.before a0 Z = true) (ws : List Jvm.Cond) (p1 : Int32) (p2 : Int32) (p3 : Int32) (p4 : Int32) (p5 : Int32) (h0 : Heap) (n0 : Nat) (O0 : Old Z n0 h0) :
    MetFree l x (head1 (Jvm.Cond.code x code maxLocals ret :: ws) room_1) (fun a U => a = #[(.int p1), (.int p2), (.int p3), (.int p4), (.int p5)] ∧ Z.Warmed39 U.vm ∧ U.heap = h0) (fun _ _ _ _ _ => True) (fun _ U o U' => ∃ v L, o = .returned v ∧ Qrm0 Z p1 p2 p3 p4 p5 h0 n0 v U'.heap L ∧ FrameEnd U o U' L room_1.cells room_1.slots) := by
  refine MetFree.of_bodySF (plainFor_of_name pn_2) hisR ?_
  intro p e s m args below meth c s₁ Bd hml0 hP hK
  obtain ⟨rfl, hZ, hh⟩ := hP
  have hx := Bd.exec
  have hby := Bd.bytes
  have hml : c.maxLocals = 19 := hml0
  have hown : s.vm.findClass "com/example/pentad/pentad/tx/TempIdRootPinLaw" = some m.cls := findClass_of_methodNamed Bd.named
  have hnm := (name_of_methodNamed Bd.named Bd.method).1
  have X0 : Stand p l e room_1 s m #[(.int p1), (.int p2), (.int p3), (.int p4), (.int p5)] below meth c s₁ [] 0 0 := Stand.of_body Bd
  have e0 : s₁.heap = h0 := by rw [← hh, Bd.state]; rfl
  have N0 := Fr.nil n0
  have pre0 : ∀ t, Steps p.tables e below (s₁.setTop (mkF m 0 #[.val (.int p1), .val (.int p2), .val (.int p3), .val (.int p4), .val (.int p5), .unset, .unset, .unset, .unset, .unset, .unset, .unset, .unset, .unset, .unset, .unset, .unset, .unset, .unset] [])) t → Steps p.tables e below (s₁.setTop (entryFrame m #[(.int p1), (.int p2), (.int p3), (.int p4), (.int p5)] maxLocals)) t := fun t k => castTop (ef_0_IIIII m p1 p2 p3 p4 p5) k
  have pre6 : ∀ t, Steps p.tables e below (s₁.setTop (mkF m 2 #[.val (.int p1), .val (.int p2), .val (.int p3), .val (.int p4), .val (.int p5), .unset, .unset, .unset, .unset, .unset, .unset, .unset, .unset, .unset, .unset, .unset, .unset, .unset, .unset] [(.int p2), (.int p1)])) t → Steps p.tables e below (s₁.setTop (entryFrame m #[(.int p1), (.int p2), (.int p3), (.int p4), (.int p5)] maxLocals)) t := fun t kt => pre0 t (by
    show Steps p.tables e below (s₁.setTop (mkF m 0 #[.val (.int p1), .val (.int p2), .val (.int p3), .val (.int p4), .val (.int p5), .unset, .unset, .unset, .unset, .unset, .unset, .unset, .unset, .unset, .unset, .unset, .unset, .unset, .unset] [])) _
    refine XS.iloadN X0.here hx rfl (hb hby at_0) rfl ?_
    show Steps p.tables e below (s₁.setTop (mkF m 1 #[.val (.int p1), .val (.int p2), .val (.int p3), .val (.int p4), .val (.int p5), .unset, .unset, .unset, .unset, .unset, .unset, .unset, .unset, .unset, .unset, .unset, .unset, .unset, .unset] [(.int p1)])) _
    refine XS.iloadN X0.here hx rfl (hb hby at_1) rfl ?_
    exact kt)
  by_cases he0 : p1 = p2
  · obtain ⟨fs, hr, hrun, hended, hW, hsame⟩ := X0.leave (v := some (.int (1 : Int32))) (fun h => by rw [Bd.returns] at h; cases h)
    refine ⟨_, _, pre6 _ ?_, hrun, hended, _, _, rfl, ?_, ⟨_, rfl⟩, hW, hsame.mono (by decide) (by decide)⟩
    · show Steps p.tables e below (s₁.setTop (mkF m 2 #[.val (.int p1), .val (.int p2), .val (.int p3), .val (.int p4), .val (.int p5), .unset, .unset, .unset, .unset, .unset, .unset, .unset, .unset, .unset, .unset, .unset, .unset, .unset, .unset] [(.int p2), (.int p1)])) _
      refine XS.icmpYes X0.here hx rfl (pc0 := 2) (pc' := 30) rfl (hb hby at_2) rfl (teq (he0 : p1 = p2)).1 (by decide) (by decide) ?_
      show Steps p.tables e below (s₁.setTop (mkF m 30 #[.val (.int p1), .val (.int p2), .val (.int p3), .val (.int p4), .val (.int p5), .unset, .unset, .unset, .unset, .unset, .unset, .unset, .unset, .unset, .unset, .unset, .unset, .unset, .unset] [])) _
      refine XS.iconst X0.here hx rfl (hb hby at_30) ?_
      show Steps p.tables e below (s₁.setTop (mkF m 31 #[.val (.int p1), .val (.int p2), .val (.int p3), .val (.int p4), .val (.int p5), .unset, .unset, .unset, .unset, .unset, .unset, .unset, .unset, .unset, .unset, .unset, .unset, .unset, .unset] [(.int (1 : Int32))])) _
      exact retN X0 hx (t := .boolean) Bd.returns (by simp) (hb hby at_31) hr
    · show Qrm0 Z p1 p2 p3 p4 p5 h0 n0 _ s₁.heap _
      exact ⟨rfl, N0⟩
  · have pre7 : ∀ t, Steps p.tables e below (s₁.setTop (mkF m 7 #[.val (.int p1), .val (.int p2), .val (.int p3), .val (.int p4), .val (.int p5), .unset, .unset, .unset, .unset, .unset, .unset, .unset, .unset, .unset, .unset, .unset, .unset, .unset, .unset] [(.int p3), (.int p1)])) t → Steps p.tables e below (s₁.setTop (entryFrame m #[(.int p1), (.int p2), (.int p3), (.int p4), (.int p5)] maxLocals)) t := fun t kt => pre6 t (by
      show Steps p.tables e below (s₁.setTop (mkF m 2 #[.val (.int p1), .val (.int p2), .val (.int p3), .val (.int p4), .val (.int p5), .unset, .unset, .unset, .unset, .unset, .unset, .unset, .unset, .unset, .unset, .unset, .unset, .unset, .unset] [(.int p2), (.int p1)])) _
      refine XS.icmpNo X0.here hx rfl (hb hby at_2) rfl (feq (he0 : ¬ (p1 = p2))).1 ?_
      show Steps p.tables e below (s₁.setTop (mkF m 5 #[.val (.int p1), .val (.int p2), .val (.int p3), .val (.int p4), .val (.int p5), .unset, .unset, .unset, .unset, .unset, .unset, .unset, .unset, .unset, .unset, .unset, .unset, .unset, .unset] [])) _
      refine XS.iloadN X0.here hx rfl (hb hby at_5) rfl ?_
      show Steps p.tables e below (s₁.setTop (mkF m 6 #[.val (.int p1), .val (.int p2), .val (.int p3), .val (.int p4), .val (.int p5), .unset, .unset, .unset, .unset, .unset, .unset, .unset, .unset, .unset, .unset, .unset, .unset, .unset, .unset] [(.int p1)])) _
      refine XS.iloadN X0.here hx rfl (hb hby at_6) rfl ?_
      exact kt)
    by_cases he1 : p1 = p3
    · obtain ⟨fs, hr, hrun, hended, hW, hsame⟩ := X0.leave (v := some (.int (1 : Int32))) (fun h => by rw [Bd.returns] at h; cases h)
      refine ⟨_, _, pre7 _ ?_, hrun, hended, _, _, rfl, ?_, ⟨_, rfl⟩, hW, hsame.mono (by decide) (by decide)⟩
      · show Steps p.tables e below (s₁.setTop (mkF m 7 #[.val (.int p1), .val (.int p2), .val (.int p3), .val (.int p4), .val (.int p5), .unset, .unset, .unset, .unset, .unset, .unset, .unset, .unset, .unset, .unset, .unset, .unset, .unset, .unset] [(.int p3), (.int p1)])) _
        refine XS.icmpYes X0.here hx rfl (pc0 := 7) (pc' := 30) rfl (hb hby at_7) rfl (teq (he1 : p1 = p3)).1 (by decide) (by decide) ?_
        show Steps p.tables e below (s₁.setTop (mkF m 30 #[.val (.int p1), .val (.int p2), .val (.int p3), .val (.int p4), .val (.int p5), .unset, .unset, .unset, .unset, .unset, .unset, .unset, .unset, .unset, .unset, .unset, .unset, .unset, .unset] [])) _
        refine XS.iconst X0.here hx rfl (hb hby at_30) ?_
        show Steps p.tables e below (s₁.setTop (mkF m 31 #[.val (.int p1), .val (.int p2), .val (.int p3), .val (.int p4), .val (.int p5), .unset, .unset, .unset, .unset, .unset, .unset, .unset, .unset, .unset, .unset, .unset, .unset, .unset, .unset] [(.int (1 : Int32))])) _
        exact retN X0 hx (t := .boolean) Bd.returns (by simp) (hb hby at_31) hr
      · show Qrm0 Z p1 p2 p3 p4 p5 h0 n0 _ s₁.heap _
        exact ⟨rfl, N0⟩
    · have pre8 : ∀ t, Steps p.tables e below (s₁.setTop (mkF m 12 #[.val (.int p1), .val (.int p2), .val (.int p3), .val (.int p4), .val (.int p5), .unset, .unset, .unset, .unset, .unset, .unset, .unset, .unset, .unset, .unset, .unset, .unset, .unset, .unset] [(.int p4), (.int p1)])) t → Steps p.tables e below (s₁.setTop (entryFrame m #[(.int p1), (.int p2), (.int p3), (.int p4), (.int p5)] maxLocals)) t := fun t kt => pre7 t (by
        show Steps p.tables e below (s₁.setTop (mkF m 7 #[.val (.int p1), .val (.int p2), .val (.int p3), .val (.int p4), .val (.int p5), .unset, .unset, .unset, .unset, .unset, .unset, .unset, .unset, .unset, .unset, .unset, .unset, .unset, .unset] [(.int p3), (.int p1)])) _
        refine XS.icmpNo X0.here hx rfl (hb hby at_7) rfl (feq (he1 : ¬ (p1 = p3))).1 ?_
        show Steps p.tables e below (s₁.setTop (mkF m 10 #[.val (.int p1), .val (.int p2), .val (.int p3), .val (.int p4), .val (.int p5), .unset, .unset, .unset, .unset, .unset, .unset, .unset, .unset, .unset, .unset, .unset, .unset, .unset, .unset] [])) _
        refine XS.iloadN X0.here hx rfl (hb hby at_10) rfl ?_
        show Steps p.tables e below (s₁.setTop (mkF m 11 #[.val (.int p1), .val (.int p2), .val (.int p3), .val (.int p4), .val (.int p5), .unset, .unset, .unset, .unset, .unset, .unset, .unset, .unset, .unset, .unset, .unset, .unset, .unset, .unset] [(.int p1)])) _
        refine XS.iloadN X0.here hx rfl (hb hby at_11) rfl ?_
        exact kt)
      by_cases he2 : p1 = p4
      · obtain ⟨fs, hr, hrun, hended, hW, hsame⟩ := X0.leave (v := some (.int (1 : Int32))) (fun h => by rw [Bd.returns] at h; cases h)
        refine ⟨_, _, pre8 _ ?_, hrun, hended, _, _, rfl, ?_, ⟨_, rfl⟩, hW, hsame.mono (by decide) (by decide)⟩
        · show Steps p.tables e below (s₁.setTop (mkF m 12 #[.val (.int p1), .val (.int p2), .val (.int p3), .val (.int p4), .val (.int p5), .unset, .unset, .unset, .unset, .unset, .unset, .unset, .unset, .unset, .unset, .unset, .unset, .unset, .unset] [(.int p4), (.int p1)])) _
          refine XS.icmpYes X0.here hx rfl (pc0 := 12) (pc' := 30) rfl (hb hby at_12) rfl (teq (he2 : p1 = p4)).1 (by decide) (by decide) ?_
          show Steps p.tables e below (s₁.setTop (mkF m 30 #[.val (.int p1), .val (.int p2), .val (.int p3), .val (.int p4), .val (.int p5), .unset, .unset, .unset, .unset, .unset, .unset, .unset, .unset, .unset, .unset, .unset, .unset, .unset, .unset] [])) _
          refine XS.iconst X0.here hx rfl (hb hby at_30) ?_
          show Steps p.tables e below (s₁.setTop (mkF m 31 #[.val (.int p1), .val (.int p2), .val (.int p3), .val (.int p4), .val (.int p5), .unset, .unset, .unset, .unset, .unset, .unset, .unset, .unset, .unset, .unset, .unset, .unset, .unset, .unset] [(.int (1 : Int32))])) _
          exact retN X0 hx (t := .boolean) Bd.returns (by simp) (hb hby at_31) hr
        · show Qrm0 Z p1 p2 p3 p4 p5 h0 n0 _ s₁.heap _
          exact ⟨rfl, N0⟩
      · have pre9 : ∀ t, Steps p.tables e below (s₁.setTop (mkF m 17 #[.val (.int p1), .val (.int p2), .val (.int p3), .val (.int p4), .val (.int p5), .unset, .unset, .unset, .unset, .unset, .unset, .unset, .unset, .unset, .unset, .unset, .unset, .unset, .unset] [(.int p3), (.int p2)])) t → Steps p.tables e below (s₁.setTop (entryFrame m #[(.int p1), (.int p2), (.int p3), (.int p4), (.int p5)] maxLocals)) t := fun t kt => pre8 t (by
          show Steps p.tables e below (s₁.setTop (mkF m 12 #[.val (.int p1), .val (.int p2), .val (.int p3), .val (.int p4), .val (.int p5), .unset, .unset, .unset, .unset, .unset, .unset, .unset, .unset, .unset, .unset, .unset, .unset, .unset, .unset] [(.int p4), (.int p1)])) _
          refine XS.icmpNo X0.here hx rfl (hb hby at_12) rfl (feq (he2 : ¬ (p1 = p4))).1 ?_
          show Steps p.tables e below (s₁.setTop (mkF m 15 #[.val (.int p1), .val (.int p2), .val (.int p3), .val (.int p4), .val (.int p5), .unset, .unset, .unset, .unset, .unset, .unset, .unset, .unset, .unset, .unset, .unset, .unset, .unset, .unset] [])) _
          refine XS.iloadN X0.here hx rfl (hb hby at_15) rfl ?_
          show Steps p.tables e below (s₁.setTop (mkF m 16 #[.val (.int p1), .val (.int p2), .val (.int p3), .val (.int p4), .val (.int p5), .unset, .unset, .unset, .unset, .unset, .unset, .unset, .unset, .unset, .unset, .unset, .unset, .unset, .unset] [(.int p2)])) _
          refine XS.iloadN X0.here hx rfl (hb hby at_16) rfl ?_
          exact kt)
        by_cases he3 : p2 = p3
        · obtain ⟨fs, hr, hrun, hended, hW, hsame⟩ := X0.leave (v := some (.int (1 : Int32))) (fun h => by rw [Bd.returns] at h; cases h)
          refine ⟨_, _, pre9 _ ?_, hrun, hended, _, _, rfl, ?_, ⟨_, rfl⟩, hW, hsame.mono (by decide) (by decide)⟩
          · show Steps p.tables e below (s₁.setTop (mkF m 17 #[.val (.int p1), .val (.int p2), .val (.int p3), .val (.int p4), .val (.int p5), .unset, .unset, .unset, .unset, .unset, .unset, .unset, .unset, .unset, .unset, .unset, .unset, .unset, .unset] [(.int p3), (.int p2)])) _
            refine XS.icmpYes X0.here hx rfl (pc0 := 17) (pc' := 30) rfl (hb hby at_17) rfl (teq (he3 : p2 = p3)).1 (by decide) (by decide) ?_
            show Steps p.tables e below (s₁.setTop (mkF m 30 #[.val (.int p1), .val (.int p2), .val (.int p3), .val (.int p4), .val (.int p5), .unset, .unset, .unset, .unset, .unset, .unset, .unset, .unset, .unset, .unset, .unset, .unset, .unset, .unset] [])) _
            refine XS.iconst X0.here hx rfl (hb hby at_30) ?_
            show Steps p.tables e below (s₁.setTop (mkF m 31 #[.val (.int p1), .val (.int p2), .val (.int p3), .val (.int p4), .val (.int p5), .unset, .unset, .unset, .unset, .unset, .unset, .unset, .unset, .unset, .unset, .unset, .unset, .unset, .unset] [(.int (1 : Int32))])) _
            exact retN X0 hx (t := .boolean) Bd.returns (by simp) (hb hby at_31) hr
          · show Qrm0 Z p1 p2 p3 p4 p5 h0 n0 _ s₁.heap _
            exact ⟨rfl, N0⟩
        · have pre10 : ∀ t, Steps p.tables e below (s₁.setTop (mkF m 22 #[.val (.int p1), .val (.int p2), .val (.int p3), .val (.int p4), .val (.int p5), .unset, .unset, .unset, .unset, .unset, .unset, .unset, .unset, .unset, .unset, .unset, .unset, .unset, .unset] [(.int p4), (.int p2)])) t → Steps p.tables e below (s₁.setTop (entryFrame m #[(.int p1), (.int p2), (.int p3), (.int p4), (.int p5)] maxLocals)) t := fun t kt => pre9 t (by
            show Steps p.tables e below (s₁.setTop (mkF m 17 #[.val (.int p1), .val (.int p2), .val (.int p3), .val (.int p4), .val (.int p5), .unset, .unset, .unset, .unset, .unset, .unset, .unset, .unset, .unset, .unset, .unset, .unset, .unset, .unset] [(.int p3), (.int p2)])) _
            refine XS.icmpNo X0.here hx rfl (hb hby at_17) rfl (feq (he3 : ¬ (p2 = p3))).1 ?_
            show Steps p.tables e below (s₁.setTop (mkF m 20 #[.val (.int p1), .val (.int p2), .val (.int p3), .val (.int p4), .val (.int p5), .unset, .unset, .unset, .unset, .unset, .unset, .unset, .unset, .unset, .unset, .unset, .unset, .unset, .unset] [])) _
            refine XS.iloadN X0.here hx rfl (hb hby at_20) rfl ?_
            show Steps p.tables e below (s₁.setTop (mkF m 21 #[.val (.int p1), .val (.int p2), .val (.int p3), .val (.int p4), .val (.int p5), .unset, .unset, .unset, .unset, .unset, .unset, .unset, .unset, .unset, .unset, .unset, .unset, .unset, .unset] [(.int p2)])) _
            refine XS.iloadN X0.here hx rfl (hb hby at_21) rfl ?_
            exact kt)
          by_cases he4 : p2 = p4
          · obtain ⟨fs, hr, hrun, hended, hW, hsame⟩ := X0.leave (v := some (.int (1 : Int32))) (fun h => by rw [Bd.returns] at h; cases h)
            refine ⟨_, _, pre10 _ ?_, hrun, hended, _, _, rfl, ?_, ⟨_, rfl⟩, hW, hsame.mono (by decide) (by decide)⟩
            · show Steps p.tables e below (s₁.setTop (mkF m 22 #[.val (.int p1), .val (.int p2), .val (.int p3), .val (.int p4), .val (.int p5), .unset, .unset, .unset, .unset, .unset, .unset, .unset, .unset, .unset, .unset, .unset, .unset, .unset, .unset] [(.int p4), (.int p2)])) _
              refine XS.icmpYes X0.here hx rfl (pc0 := 22) (pc' := 30) rfl (hb hby at_22) rfl (teq (he4 : p2 = p4)).1 (by decide) (by decide) ?_
              show Steps p.tables e below (s₁.setTop (mkF m 30 #[.val (.int p1), .val (.int p2), .val (.int p3), .val (.int p4), .val (.int p5), .unset, .unset, .unset, .unset, .unset, .unset, .unset, .unset, .unset, .unset, .unset, .unset, .unset, .unset] [])) _
              refine XS.iconst X0.here hx rfl (hb hby at_30) ?_
              show Steps p.tables e below (s₁.setTop (mkF m 31 #[.val (.int p1), .val (.int p2), .val (.int p3), .val (.int p4), .val (.int p5), .unset, .unset, .unset, .unset, .unset, .unset, .unset, .unset, .unset, .unset, .unset, .unset, .unset, .unset] [(.int (1 : Int32))])) _
              exact retN X0 hx (t := .boolean) Bd.returns (by simp) (hb hby at_31) hr
            · show Qrm0 Z p1 p2 p3 p4 p5 h0 n0 _ s₁.heap _
              exact ⟨rfl, N0⟩
          · have pre11 : ∀ t, Steps p.tables e below (s₁.setTop (mkF m 27 #[.val (.int p1), .val (.int p2), .val (.int p3), .val (.int p4), .val (.int p5), .unset, .unset, .unset, .unset, .unset, .unset, .unset, .unset, .unset, .unset, .unset, .unset, .unset, .unset] [(.int p4), (.int p3)])) t → Steps p.tables e below (s₁.setTop (entryFrame m #[(.int p1), (.int p2), (.int p3), (.int p4), (.int p5)] maxLocals)) t := fun t kt => pre10 t (by
              show Steps p.tables e below (s₁.setTop (mkF m 22 #[.val (.int p1), .val (.int p2), .val (.int p3), .val (.int p4), .val (.int p5), .unset, .unset, .unset, .unset, .unset, .unset, .unset, .unset, .unset, .unset, .unset, .unset, .unset, .unset] [(.int p4), (.int p2)])) _
              refine XS.icmpNo X0.here hx rfl (hb hby at_22) rfl (feq (he4 : ¬ (p2 = p4))).1 ?_
              show Steps p.tables e below (s₁.setTop (mkF m 25 #[.val (.int p1), .val (.int p2), .val (.int p3), .val (.int p4), .val (.int p5), .unset, .unset, .unset, .unset, .unset, .unset, .unset, .unset, .unset, .unset, .unset, .unset, .unset, .unset] [])) _
              refine XS.iloadN X0.here hx rfl (hb hby at_25) rfl ?_
              show Steps p.tables e below (s₁.setTop (mkF m 26 #[.val (.int p1), .val (.int p2), .val (.int p3), .val (.int p4), .val (.int p5), .unset, .unset, .unset, .unset, .unset, .unset, .unset, .unset, .unset, .unset, .unset, .unset, .unset, .unset] [(.int p3)])) _
              refine XS.iloadN X0.here hx rfl (hb hby at_26) rfl ?_
              exact kt)
            by_cases he5 : p3 = p4
            · obtain ⟨fs, hr, hrun, hended, hW, hsame⟩ := X0.leave (v := some (.int (1 : Int32))) (fun h => by rw [Bd.returns] at h; cases h)
              refine ⟨_, _, pre11 _ ?_, hrun, hended, _, _, rfl, ?_, ⟨_, rfl⟩, hW, hsame.mono (by decide) (by decide)⟩
              · show Steps p.tables e below (s₁.setTop (mkF m 27 #[.val (.int p1), .val (.int p2), .val (.int p3), .val (.int p4), .val (.int p5), .unset, .unset, .unset, .unset, .unset, .unset, .unset, .unset, .unset, .unset, .unset, .unset, .unset, .unset] [(.int p4), (.int p3)])) _
                refine XS.icmpNo X0.here hx rfl (hb hby at_27) rfl (teq (he5 : p3 = p4)).2 ?_
                show Steps p.tables e below (s₁.setTop (mkF m 30 #[.val (.int p1), .val (.int p2), .val (.int p3), .val (.int p4), .val (.int p5), .unset, .unset, .unset, .unset, .unset, .unset, .unset, .unset, .unset, .unset, .unset, .unset, .unset, .unset] [])) _
                refine XS.iconst X0.here hx rfl (hb hby at_30) ?_
                show Steps p.tables e below (s₁.setTop (mkF m 31 #[.val (.int p1), .val (.int p2), .val (.int p3), .val (.int p4), .val (.int p5), .unset, .unset, .unset, .unset, .unset, .unset, .unset, .unset, .unset, .unset, .unset, .unset, .unset, .unset] [(.int (1 : Int32))])) _
                exact retN X0 hx (t := .boolean) Bd.returns (by simp) (hb hby at_31) hr
              · show Qrm0 Z p1 p2 p3 p4 p5 h0 n0 _ s₁.heap _
                exact ⟨rfl, N0⟩
            · obtain ⟨T12, h12, k12, X12, e12, E12, A12, B12, st12⟩ := newPE X0 hx hZ (hw _ (List.mem_of_getElem? (i := 0) rfl)) e0 (g := (mkF m 33 #[.val (.int p1), .val (.int p2), .val (.int p3), .val (.int p4), .val (.int p5), .unset, .unset, .unset, .unset, .unset, .unset, .unset, .unset, .unset, .unset, .unset, .unset, .unset, .unset] [(.int (4 : Int32))])) rfl (hb hby at_33) rfl (by decide) (cap := 4) (by decide) (by decide) (by decide) (by decide) (ad := "[I") (by decide)
              obtain ⟨b12, g12⟩ : ∃ z, z = h0.size := ⟨_, rfl⟩
              rw [← g12] at A12 B12 st12
              have g_b12 : n0 ≤ b12 := own_born O0 (own_eqle g12)
              have sz_b12 : h0.size ≤ b12 := Nat.le_trans (Keep.refl h0 []).1 (own_eqle g12)
              have K12 : Keep h0 h12 [] := (Keep.refl h0 []).ext E12
              have O12 : Old Z n0 h12 := O0.ext E12
              have V12 : Arv Z h12 b12 k12 .int (4 : Int32) [] (.int (0 : Int32)) := Arv.new A12 (by decide)
              have V13 : Arv Z h12 b12 k12 .int (4 : Int32) [(.int (0 : Int32))] (.int (0 : Int32)) := V12.pad (pad_rep [] (.int (0 : Int32)) 1)
              obtain ⟨cl14, Ar14, q14, S14, M14, Hs14, G14⟩ := id V13
              have hin14 : ¬ ((0 : Int32) < 0 ∨ cl14.slots.size ≤ ((0 : Int32)).toNatClampNeg) := inb_of S14 ⟨by decide, by decide⟩
              obtain ⟨T15, h15, X15, e15, W15, st15⟩ := stI X12 hx hZ e12 Ar14 (j := (0 : Int32)) hin14 (g := (mkF m 38 #[.val (.int p1), .val (.int p2), .val (.int p3), .val (.int p4), .val (.int p5), .unset, .unset, .unset, .unset, .unset, .unset, .unset, .unset, .unset, .unset, .unset, .unset, .unset, .unset] [(.int p1), (.int (0 : Int32)), (.ref b12), (.ref b12)])) rfl rfl (hb hby at_38)
              have K15 : Keep h0 h15 [] := K12.wr W15 (Or.inr sz_b12)
              have O15 : Old Z n0 h15 := O12.wr W15 g_b12
              have N15 := Fr.snoc X15 N0 g_b12
              have Vw15 : Arv Z h15 b12 k12 .int (4 : Int32) [(.int p1)] (.int (0 : Int32)) := Arv.set Ar14 q14 S14 M14 Hs14 G14 rfl W15 0 rfl (Nat.le_of_ble_eq_true rfl)
              have V16 : Arv Z h15 b12 k12 .int (4 : Int32) [(.int p1), (.int (0 : Int32))] (.int (0 : Int32)) := Vw15.pad (pad_rep [(.int p1)] (.int (0 : Int32)) 1)
              obtain ⟨cl17, Ar17, q17, S17, M17, Hs17, G17⟩ := id V16
              have hin17 : ¬ ((1 : Int32) < 0 ∨ cl17.slots.size ≤ ((1 : Int32)).toNatClampNeg) := inb_of S17 ⟨by decide, by decide⟩
              obtain ⟨T18, h18, X18, e18, W18, st18⟩ := stI X15 hx hZ e15 Ar17 (j := (1 : Int32)) hin17 (g := (mkF m 42 #[.val (.int p1), .val (.int p2), .val (.int p3), .val (.int p4), .val (.int p5), .unset, .unset, .unset, .unset, .unset, .unset, .unset, .unset, .unset, .unset, .unset, .unset, .unset, .unset] [(.int p2), (.int (1 : Int32)), (.ref b12), (.ref b12)])) rfl rfl (hb hby at_42)
              have K18 : Keep h0 h18 [] := K15.wr W18 (Or.inr sz_b12)
              have O18 : Old Z n0 h18 := O15.wr W18 g_b12
              have N18 := Fr.snoc X18 N15 g_b12
              have Vw18 : Arv Z h18 b12 k12 .int (4 : Int32) [(.int p1), (.int p2)] (.int (0 : Int32)) := Arv.set Ar17 q17 S17 M17 Hs17 G17 rfl W18 1 rfl (Nat.le_of_ble_eq_true rfl)
              have V19 : Arv Z h18 b12 k12 .int (4 : Int32) [(.int p1), (.int p2), (.int (0 : Int32))] (.int (0 : Int32)) := Vw18.pad (pad_rep [(.int p1), (.int p2)] (.int (0 : Int32)) 1)
              obtain ⟨cl20, Ar20, q20, S20, M20, Hs20, G20⟩ := id V19
              have hin20 : ¬ ((2 : Int32) < 0 ∨ cl20.slots.size ≤ ((2 : Int32)).toNatClampNeg) := inb_of S20 ⟨by decide, by decide⟩
              obtain ⟨T21, h21, X21, e21, W21, st21⟩ := stI X18 hx hZ e18 Ar20 (j := (2 : Int32)) hin20 (g := (mkF m 46 #[.val (.int p1), .val (.int p2), .val (.int p3), .val (.int p4), .val (.int p5), .unset, .unset, .unset, .unset, .unset, .unset, .unset, .unset, .unset, .unset, .unset, .unset, .unset, .unset] [(.int p3), (.int (2 : Int32)), (.ref b12), (.ref b12)])) rfl rfl (hb hby at_46)
              have K21 : Keep h0 h21 [] := K18.wr W21 (Or.inr sz_b12)
              have O21 : Old Z n0 h21 := O18.wr W21 g_b12
              have N21 := Fr.snoc X21 N18 g_b12
              have Vw21 : Arv Z h21 b12 k12 .int (4 : Int32) [(.int p1), (.int p2), (.int p3)] (.int (0 : Int32)) := Arv.set Ar20 q20 S20 M20 Hs20 G20 rfl W21 2 rfl (Nat.le_of_ble_eq_true rfl)
              have V22 : Arv Z h21 b12 k12 .int (4 : Int32) [(.int p1), (.int p2), (.int p3), (.int (0 : Int32))] (.int (0 : Int32)) := Vw21.pad (pad_rep [(.int p1), (.int p2), (.int p3)] (.int (0 : Int32)) 1)
              obtain ⟨cl23, Ar23, q23, S23, M23, Hs23, G23⟩ := id V22
              have hin23 : ¬ ((3 : Int32) < 0 ∨ cl23.slots.size ≤ ((3 : Int32)).toNatClampNeg) := inb_of S23 ⟨by decide, by decide⟩
              obtain ⟨T24, h24, X24, e24, W24, st24⟩ := stI X21 hx hZ e21 Ar23 (j := (3 : Int32)) hin23 (g := (mkF m 50 #[.val (.int p1), .val (.int p2), .val (.int p3), .val (.int p4), .val (.int p5), .unset, .unset, .unset, .unset, .unset, .unset, .unset, .unset, .unset, .unset, .unset, .unset, .unset, .unset] [(.int p4), (.int (3 : Int32)), (.ref b12), (.ref b12)])) rfl rfl (hb hby at_50)
              have K24 : Keep h0 h24 [] := K21.wr W24 (Or.inr sz_b12)
              have O24 : Old Z n0 h24 := O21.wr W24 g_b12
              have N24 := Fr.snoc X24 N21 g_b12
              have Vw24 : Arv Z h24 b12 k12 .int (4 : Int32) [(.int p1), (.int p2), (.int p3), (.int p4)] (.int (0 : Int32)) := Arv.set Ar23 q23 S23 M23 Hs23 G23 rfl W24 3 rfl (Nat.le_of_ble_eq_true rfl)
              obtain ⟨T25, h25, k25, X25, e25, E25, A25, B25, O225, st25⟩ := newRE X24 hx hZ hown (hw _ (List.mem_of_getElem? (i := 1) rfl)) (hw _ (List.mem_of_getElem? (i := 2) rfl)) e24 (g := (mkF m 54 #[.val (.int p1), .val (.int p2), .val (.int p3), .val (.int p4), .val (.int p5), .val (.ref b12), .unset, .unset, .unset, .unset, .unset, .unset, .unset, .unset, .unset, .unset, .unset, .unset, .unset] [(.int (4 : Int32))])) rfl (hb hby at_54) rfl (by decide) (cap := 4) (by decide) (by decide) (by decide) (by decide) (ad := "[Lcom/example/pentad/pentad/tx/TempId;") (by decide)
              obtain ⟨b25, g25⟩ : ∃ z, z = h24.size := ⟨_, rfl⟩
              rw [← g25] at A25 B25 st25
              have f26 : Exa Z h24 b12 "[I" := ((((B12.wr W15).wr W18).wr W21).wr W24)
              have ne27 : b12 ≠ b25 := (own_ltn f26.lt (own_eqle g25))
              have g_b25 : n0 ≤ b25 := own_born O24 (own_eqle g25)
              have sz_b25 : h0.size ≤ b25 := Nat.le_trans K24.1 (own_eqle g25)
              have K25 : Keep h0 h25 [] := K24.ext E25
              have O25 : Old Z n0 h25 := O24.ext E25
              have V25 : Arv Z h25 b25 k25 (.object "com/example/pentad/pentad/tx/TempId") (4 : Int32) [] .null := Arv.new A25 (by decide)
              obtain ⟨T28, h28, X28, e28, E28, A28, D28, U28, st28⟩ := newO X25 hx hZ hown (hw _ (List.mem_of_getElem? (i := 1) rfl)) (hw _ (List.mem_of_getElem? (i := 3) rfl)) (hw _ (List.mem_of_getElem? (i := 4) rfl)) e25 (g := (mkF m 59 #[.val (.int p1), .val (.int p2), .val (.int p3), .val (.int p4), .val (.int p5), .val (.ref b12), .unset, .unset, .unset, .unset, .unset, .unset, .unset, .unset, .unset, .unset, .unset, .unset, .unset] [(.int (0 : Int32)), (.ref b25), (.ref b25)])) rfl (hb hby at_59) (by decide) (by decide)
              obtain ⟨b28, g28⟩ : ∃ z, z = h25.size := ⟨_, rfl⟩
              rw [← g28] at A28 D28 U28 st28
              have f29 : Exa Z h25 b12 "[I" := (f26.ext E25)
              have ne30 : b12 ≠ b28 := (own_ltn f29.lt (own_eqle g28))
              have ne31 : b25 ≠ b28 := (own_ltn B25.lt (own_eqle g28))
              have g_b28 : n0 ≤ b28 := own_born O25 (own_eqle g28)
              have sz_b28 : h0.size ≤ b28 := Nat.le_trans K25.1 (own_eqle g28)
              have K28 : Keep h0 h28 [] := K25.ext E28
              have O28 : Old Z n0 h28 := O25.ext E28
              have F28_parent : Fld Z h28 b28 "com/example/pentad/pentad/tx/TempId" "parent" "Lcom/example/pentad/pentad/tx/TempId;" .null := D28 (Or.inl (hw _ (List.mem_of_getElem? (i := 12) rfl))) (ty := (.object "com/example/pentad/pentad/tx/TempId")) (by decide)
              have F28_order : Fld Z h28 b28 "com/example/pentad/pentad/tx/TempId" "order" "I" (.int (0 : Int32)) := D28 (Or.inr (hw _ (List.mem_of_getElem? (i := 14) rfl))) (ty := .int) (by decide)
              obtain ⟨_, _, ⟨T32, L32, k32, n32⟩, -, X32, ⟨Lc32, hQ32, l32, y32, z32⟩, st32⟩ := X28.specialBack hx (y := (⟨"com/example/pentad/pentad/tx/TempId", "<init>", "(I)V"⟩ : MethodName)) rfl hown (mvT hZ (hw _ (List.mem_of_getElem? (i := 5) rfl))) (mvT hZ (hw _ (List.mem_of_getElem? (i := 6) rfl))) (mvT hZ (hw _ (List.mem_of_getElem? (i := 7) rfl))) (by decide) (backOf (W := 4) (rm1 l Z a0 hw [] b28 p1 h28 n0 O28 A28 F28_parent g_b28 F28_order) hZ (hw _ (List.mem_of_getElem? (i := 7) rfl)) (hw _ (List.mem_of_getElem? (i := 4) rfl)) (by decide) (by decide)) (g := (mkF m 64 #[.val (.int p1), .val (.int p2), .val (.int p3), .val (.int p4), .val (.int p5), .val (.ref b12), .unset, .unset, .unset, .unset, .unset, .unset, .unset, .unset, .unset, .unset, .unset, .unset, .unset] [(.int p1), (.ref b28), (.ref b28), (.int (0 : Int32)), (.ref b25), (.ref b25)])) rfl (by rw [hml]; rfl) (Steps.refl _) (a := b28) (argsL := [(.int p1)]) (rest := [(.ref b28), (.int (0 : Int32)), (.ref b25), (.ref b25)]) (lenOf pd_6 rfl) rfl (by show 2 * 0 + _ ≤ _; exact Nat.le_of_eq rfl) (hb hby at_64) (fun _ _ => ⟨rfl, e28, (by decide : 3 + 0 ≤ _), (by decide : 11 + 0 ≤ _)⟩)
              dsimp only [Pt.U, Pt.locs, Pt.cells, Pt.slots] at X32 l32 y32 z32 st32 hQ32
              subst l32 y32 z32
              obtain ⟨rfl, Nq32, K32, P32_0, P32_1, P32_2⟩ := hQ32
              have N32 := Fr.app N24 Nq32
              have KK32 : Keep h0 T32.heap [] := Keep.trans (h := h28) K28 K32 (allS (Or.inr sz_b28) all0)
              have O32 : Old Z n0 T32.heap := O28.keep K32 (allS g_b28 all0)
              have f33 : Arv Z T32.heap b25 k25 (.object "com/example/pentad/pentad/tx/TempId") (4 : Int32) [] .null := ((V25.ext E28).keep K32 (ninS ne31 nin0))
              have V34 : Arv Z T32.heap b25 k25 (.object "com/example/pentad/pentad/tx/TempId") (4 : Int32) [.null] .null := f33.pad (pad_rep [] .null 1)
              obtain ⟨cl35, Ar35, q35, S35, M35, Hs35, G35⟩ := id V34
              have hin35 : ¬ ((0 : Int32) < 0 ∨ cl35.slots.size ≤ ((0 : Int32)).toNatClampNeg) := inb_of S35 ⟨by decide, by decide⟩
              obtain ⟨T36, h36, X36, e36, W36, st36⟩ := stR X32 hx hZ rfl Ar35 (j := (0 : Int32)) hin35 rfl (Sto.ofV Ar35 q35 O225 (Ins.self P32_0)) (g := (mkF m 67 #[.val (.int p1), .val (.int p2), .val (.int p3), .val (.int p4), .val (.int p5), .val (.ref b12), .unset, .unset, .unset, .unset, .unset, .unset, .unset, .unset, .unset, .unset, .unset, .unset, .unset] [(.ref b28), (.int (0 : Int32)), (.ref b25), (.ref b25)])) rfl rfl (hb hby at_67)
              have K36 : Keep h0 h36 [] := KK32.wr W36 (Or.inr sz_b25)
              have O36 : Old Z n0 h36 := O32.wr W36 g_b25
              have N36 := Fr.snoc X36 N32 g_b25
              have Vw36 : Arv Z h36 b25 k25 (.object "com/example/pentad/pentad/tx/TempId") (4 : Int32) [(.ref b28)] .null := Arv.set Ar35 q35 S35 M35 Hs35 G35 rfl W36 0 rfl (Nat.le_of_ble_eq_true rfl)
              obtain ⟨T37, h37, X37, e37, E37, A37, D37, U37, st37⟩ := newO X36 hx hZ hown (hw _ (List.mem_of_getElem? (i := 1) rfl)) (hw _ (List.mem_of_getElem? (i := 3) rfl)) (hw _ (List.mem_of_getElem? (i := 4) rfl)) e36 (g := (mkF m 70 #[.val (.int p1), .val (.int p2), .val (.int p3), .val (.int p4), .val (.int p5), .val (.ref b12), .unset, .unset, .unset, .unset, .unset, .unset, .unset, .unset, .unset, .unset, .unset, .unset, .unset] [(.int (1 : Int32)), (.ref b25), (.ref b25)])) rfl (hb hby at_70) (by decide) (by decide)
              obtain ⟨b37, g37⟩ : ∃ z, z = h36.size := ⟨_, rfl⟩
              rw [← g37] at A37 D37 U37 st37
              have f38 : Exa Z h36 b12 "[I" := (((f29.ext E28).keep K32).wr W36)
              have ne39 : b12 ≠ b37 := (own_ltn f38.lt (own_eqle g37))
              have f40 : Exa Z h36 b25 "[Lcom/example/pentad/pentad/tx/TempId;" := (((B25.ext E28).keep K32).wr W36)
              have ne41 : b25 ≠ b37 := (own_ltn f40.lt (own_eqle g37))
              have f42 : Exa Z h36 b28 "com/example/pentad/pentad/tx/TempId" := (P32_0.wr W36)
              have ne43 : b28 ≠ b37 := (own_ltn f42.lt (own_eqle g37))
              have g_b37 : n0 ≤ b37 := own_born O36 (own_eqle g37)
              have sz_b37 : h0.size ≤ b37 := Nat.le_trans K36.1 (own_eqle g37)
              have K37 : Keep h0 h37 [] := K36.ext E37
              have O37 : Old Z n0 h37 := O36.ext E37
              have F37_parent : Fld Z h37 b37 "com/example/pentad/pentad/tx/TempId" "parent" "Lcom/example/pentad/pentad/tx/TempId;" .null := D37 (Or.inl (hw _ (List.mem_of_getElem? (i := 12) rfl))) (ty := (.object "com/example/pentad/pentad/tx/TempId")) (by decide)
              have F37_order : Fld Z h37 b37 "com/example/pentad/pentad/tx/TempId" "order" "I" (.int (0 : Int32)) := D37 (Or.inr (hw _ (List.mem_of_getElem? (i := 14) rfl))) (ty := .int) (by decide)
              obtain ⟨_, _, ⟨T44, L44, k44, n44⟩, -, X44, ⟨Lc44, hQ44, l44, y44, z44⟩, st44⟩ := X37.specialBack hx (y := (⟨"com/example/pentad/pentad/tx/TempId", "<init>", "(I)V"⟩ : MethodName)) rfl hown (mvT hZ (hw _ (List.mem_of_getElem? (i := 5) rfl))) (mvT hZ (hw _ (List.mem_of_getElem? (i := 6) rfl))) (mvT hZ (hw _ (List.mem_of_getElem? (i := 7) rfl))) (by decide) (backOf (W := 4) (rm1 l Z a0 hw [] b37 p2 h37 n0 O37 A37 F37_parent g_b37 F37_order) hZ (hw _ (List.mem_of_getElem? (i := 7) rfl)) (hw _ (List.mem_of_getElem? (i := 4) rfl)) (by decide) (by decide)) (g := (mkF m 75 #[.val (.int p1), .val (.int p2), .val (.int p3), .val (.int p4), .val (.int p5), .val (.ref b12), .unset, .unset, .unset, .unset, .unset, .unset, .unset, .unset, .unset, .unset, .unset, .unset, .unset] [(.int p2), (.ref b37), (.ref b37), (.int (1 : Int32)), (.ref b25), (.ref b25)])) rfl (by rw [hml]; rfl) (Steps.refl _) (a := b37) (argsL := [(.int p2)]) (rest := [(.ref b37), (.int (1 : Int32)), (.ref b25), (.ref b25)]) (lenOf pd_6 rfl) rfl (by show 2 * 0 + _ ≤ _; exact Nat.le_of_eq rfl) (hb hby at_75) (fun _ _ => ⟨rfl, e37, (by decide : 4 + 0 ≤ _), (by decide : 14 + 0 ≤ _)⟩)
              dsimp only [Pt.U, Pt.locs, Pt.cells, Pt.slots] at X44 l44 y44 z44 st44 hQ44
              subst l44 y44 z44
              obtain ⟨rfl, Nq44, K44, P44_0, P44_1, P44_2⟩ := hQ44
              have N44 := Fr.app N36 Nq44
              have KK44 : Keep h0 T44.heap [] := Keep.trans (h := h37) K37 K44 (allS (Or.inr sz_b37) all0)
              have O44 : Old Z n0 T44.heap := O37.keep K44 (allS g_b37 all0)
              have f45 : Arv Z T44.heap b25 k25 (.object "com/example/pentad/pentad/tx/TempId") (4 : Int32) [(.ref b28)] .null := ((Vw36.ext E37).keep K44 (ninS ne41 nin0))
              have V46 : Arv Z T44.heap b25 k25 (.object "com/example/pentad/pentad/tx/TempId") (4 : Int32) [(.ref b28), .null] .null := f45.pad (pad_rep [(.ref b28)] .null 1)
              obtain ⟨cl47, Ar47, q47, S47, M47, Hs47, G47⟩ := id V46
              have hin47 : ¬ ((1 : Int32) < 0 ∨ cl47.slots.size ≤ ((1 : Int32)).toNatClampNeg) := inb_of S47 ⟨by decide, by decide⟩
              obtain ⟨T48, h48, X48, e48, W48, st48⟩ := stR X44 hx hZ rfl Ar47 (j := (1 : Int32)) hin47 rfl (Sto.ofV Ar47 q47 O225 (Ins.self P44_0)) (g := (mkF m 78 #[.val (.int p1), .val (.int p2), .val (.int p3), .val (.int p4), .val (.int p5), .val (.ref b12), .unset, .unset, .unset, .unset, .unset, .unset, .unset, .unset, .unset, .unset, .unset, .unset, .unset] [(.ref b37), (.int (1 : Int32)), (.ref b25), (.ref b25)])) rfl rfl (hb hby at_78)
              have K48 : Keep h0 h48 [] := KK44.wr W48 (Or.inr sz_b25)
              have O48 : Old Z n0 h48 := O44.wr W48 g_b25
              have N48 := Fr.snoc X48 N44 g_b25
              have Vw48 : Arv Z h48 b25 k25 (.object "com/example/pentad/pentad/tx/TempId") (4 : Int32) [(.ref b28), (.ref b37)] .null := Arv.set Ar47 q47 S47 M47 Hs47 G47 rfl W48 1 rfl (Nat.le_of_ble_eq_true rfl)
              obtain ⟨T49, h49, X49, e49, E49, A49, D49, U49, st49⟩ := newO X48 hx hZ hown (hw _ (List.mem_of_getElem? (i := 1) rfl)) (hw _ (List.mem_of_getElem? (i := 3) rfl)) (hw _ (List.mem_of_getElem? (i := 4) rfl)) e48 (g := (mkF m 81 #[.val (.int p1), .val (.int p2), .val (.int p3), .val (.int p4), .val (.int p5), .val (.ref b12), .unset, .unset, .unset, .unset, .unset, .unset, .unset, .unset, .unset, .unset, .unset, .unset, .unset] [(.int (2 : Int32)), (.ref b25), (.ref b25)])) rfl (hb hby at_81) (by decide) (by decide)
              obtain ⟨b49, g49⟩ : ∃ z, z = h48.size := ⟨_, rfl⟩
              rw [← g49] at A49 D49 U49 st49
              have f50 : Exa Z h48 b12 "[I" := (((f38.ext E37).keep K44).wr W48)
              have ne51 : b12 ≠ b49 := (own_ltn f50.lt (own_eqle g49))
              have f52 : Exa Z h48 b25 "[Lcom/example/pentad/pentad/tx/TempId;" := (((f40.ext E37).keep K44).wr W48)
              have ne53 : b25 ≠ b49 := (own_ltn f52.lt (own_eqle g49))
              have f54 : Exa Z h48 b28 "com/example/pentad/pentad/tx/TempId" := (((f42.ext E37).keep K44).wr W48)
              have ne55 : b28 ≠ b49 := (own_ltn f54.lt (own_eqle g49))
              have f56 : Exa Z h48 b37 "com/example/pentad/pentad/tx/TempId" := (P44_0.wr W48)
              have ne57 : b37 ≠ b49 := (own_ltn f56.lt (own_eqle g49))
              have g_b49 : n0 ≤ b49 := own_born O48 (own_eqle g49)
              have sz_b49 : h0.size ≤ b49 := Nat.le_trans K48.1 (own_eqle g49)
              have K49 : Keep h0 h49 [] := K48.ext E49
              have O49 : Old Z n0 h49 := O48.ext E49
              have F49_parent : Fld Z h49 b49 "com/example/pentad/pentad/tx/TempId" "parent" "Lcom/example/pentad/pentad/tx/TempId;" .null := D49 (Or.inl (hw _ (List.mem_of_getElem? (i := 12) rfl))) (ty := (.object "com/example/pentad/pentad/tx/TempId")) (by decide)
              have F49_order : Fld Z h49 b49 "com/example/pentad/pentad/tx/TempId" "order" "I" (.int (0 : Int32)) := D49 (Or.inr (hw _ (List.mem_of_getElem? (i := 14) rfl))) (ty := .int) (by decide)
              obtain ⟨_, _, ⟨T58, L58, k58, n58⟩, -, X58, ⟨Lc58, hQ58, l58, y58, z58⟩, st58⟩ := X49.specialBack hx (y := (⟨"com/example/pentad/pentad/tx/TempId", "<init>", "(I)V"⟩ : MethodName)) rfl hown (mvT hZ (hw _ (List.mem_of_getElem? (i := 5) rfl))) (mvT hZ (hw _ (List.mem_of_getElem? (i := 6) rfl))) (mvT hZ (hw _ (List.mem_of_getElem? (i := 7) rfl))) (by decide) (backOf (W := 4) (rm1 l Z a0 hw [] b49 p3 h49 n0 O49 A49 F49_parent g_b49 F49_order) hZ (hw _ (List.mem_of_getElem? (i := 7) rfl)) (hw _ (List.mem_of_getElem? (i := 4) rfl)) (by decide) (by decide)) (g := (mkF m 86 #[.val (.int p1), .val (.int p2), .val (.int p3), .val (.int p4), .val (.int p5), .val (.ref b12), .unset, .unset, .unset, .unset, .unset, .unset, .unset, .unset, .unset, .unset, .unset, .unset, .unset] [(.int p3), (.ref b49), (.ref b49), (.int (2 : Int32)), (.ref b25), (.ref b25)])) rfl (by rw [hml]; rfl) (Steps.refl _) (a := b49) (argsL := [(.int p3)]) (rest := [(.ref b49), (.int (2 : Int32)), (.ref b25), (.ref b25)]) (lenOf pd_6 rfl) rfl (by show 2 * 0 + _ ≤ _; exact Nat.le_of_eq rfl) (hb hby at_86) (fun _ _ => ⟨rfl, e49, (by decide : 5 + 0 ≤ _), (by decide : 17 + 0 ≤ _)⟩)
              dsimp only [Pt.U, Pt.locs, Pt.cells, Pt.slots] at X58 l58 y58 z58 st58 hQ58
              subst l58 y58 z58
              obtain ⟨rfl, Nq58, K58, P58_0, P58_1, P58_2⟩ := hQ58
              have N58 := Fr.app N48 Nq58
              have KK58 : Keep h0 T58.heap [] := Keep.trans (h := h49) K49 K58 (allS (Or.inr sz_b49) all0)
              have O58 : Old Z n0 T58.heap := O49.keep K58 (allS g_b49 all0)
              have f59 : Arv Z T58.heap b25 k25 (.object "com/example/pentad/pentad/tx/TempId") (4 : Int32) [(.ref b28), (.ref b37)] .null := ((Vw48.ext E49).keep K58 (ninS ne53 nin0))
              have V60 : Arv Z T58.heap b25 k25 (.object "com/example/pentad/pentad/tx/TempId") (4 : Int32) [(.ref b28), (.ref b37), .null] .null := f59.pad (pad_rep [(.ref b28), (.ref b37)] .null 1)
              obtain ⟨cl61, Ar61, q61, S61, M61, Hs61, G61⟩ := id V60
              have hin61 : ¬ ((2 : Int32) < 0 ∨ cl61.slots.size ≤ ((2 : Int32)).toNatClampNeg) := inb_of S61 ⟨by decide, by decide⟩
              obtain ⟨T62, h62, X62, e62, W62, st62⟩ := stR X58 hx hZ rfl Ar61 (j := (2 : Int32)) hin61 rfl (Sto.ofV Ar61 q61 O225 (Ins.self P58_0)) (g := (mkF m 89 #[.val (.int p1), .val (.int p2), .val (.int p3), .val (.int p4), .val (.int p5), .val (.ref b12), .unset, .unset, .unset, .unset, .unset, .unset, .unset, .unset, .unset, .unset, .unset, .unset, .unset] [(.ref b49), (.int (2 : Int32)), (.ref b25), (.ref b25)])) rfl rfl (hb hby at_89)
              have K62 : Keep h0 h62 [] := KK58.wr W62 (Or.inr sz_b25)
              have O62 : Old Z n0 h62 := O58.wr W62 g_b25
              have N62 := Fr.snoc X62 N58 g_b25
              have Vw62 : Arv Z h62 b25 k25 (.object "com/example/pentad/pentad/tx/TempId") (4 : Int32) [(.ref b28), (.ref b37), (.ref b49)] .null := Arv.set Ar61 q61 S61 M61 Hs61 G61 rfl W62 2 rfl (Nat.le_of_ble_eq_true rfl)
              obtain ⟨T63, h63, X63, e63, E63, A63, D63, U63, st63⟩ := newO X62 hx hZ hown (hw _ (List.mem_of_getElem? (i := 1) rfl)) (hw _ (List.mem_of_getElem? (i := 3) rfl)) (hw _ (List.mem_of_getElem? (i := 4) rfl)) e62 (g := (mkF m 92 #[.val (.int p1), .val (.int p2), .val (.int p3), .val (.int p4), .val (.int p5), .val (.ref b12), .unset, .unset, .unset, .unset, .unset, .unset, .unset, .unset, .unset, .unset, .unset, .unset, .unset] [(.int (3 : Int32)), (.ref b25), (.ref b25)])) rfl (hb hby at_92) (by decide) (by decide)
              obtain ⟨b63, g63⟩ : ∃ z, z = h62.size := ⟨_, rfl⟩
              rw [← g63] at A63 D63 U63 st63
              have f64 : Exa Z h62 b12 "[I" := (((f50.ext E49).keep K58).wr W62)
              have ne65 : b12 ≠ b63 := (own_ltn f64.lt (own_eqle g63))
              have f66 : Exa Z h62 b25 "[Lcom/example/pentad/pentad/tx/TempId;" := (((f52.ext E49).keep K58).wr W62)
              have ne67 : b25 ≠ b63 := (own_ltn f66.lt (own_eqle g63))
              have f68 : Exa Z h62 b28 "com/example/pentad/pentad/tx/TempId" := (((f54.ext E49).keep K58).wr W62)
              have ne69 : b28 ≠ b63 := (own_ltn f68.lt (own_eqle g63))
              have f70 : Exa Z h62 b37 "com/example/pentad/pentad/tx/TempId" := (((f56.ext E49).keep K58).wr W62)
              have ne71 : b37 ≠ b63 := (own_ltn f70.lt (own_eqle g63))
              have f72 : Exa Z h62 b49 "com/example/pentad/pentad/tx/TempId" := (P58_0.wr W62)
              have ne73 : b49 ≠ b63 := (own_ltn f72.lt (own_eqle g63))
              have g_b63 : n0 ≤ b63 := own_born O62 (own_eqle g63)
              have sz_b63 : h0.size ≤ b63 := Nat.le_trans K62.1 (own_eqle g63)
              have K63 : Keep h0 h63 [] := K62.ext E63
              have O63 : Old Z n0 h63 := O62.ext E63
              have F63_parent : Fld Z h63 b63 "com/example/pentad/pentad/tx/TempId" "parent" "Lcom/example/pentad/pentad/tx/TempId;" .null := D63 (Or.inl (hw _ (List.mem_of_getElem? (i := 12) rfl))) (ty := (.object "com/example/pentad/pentad/tx/TempId")) (by decide)
              have F63_order : Fld Z h63 b63 "com/example/pentad/pentad/tx/TempId" "order" "I" (.int (0 : Int32)) := D63 (Or.inr (hw _ (List.mem_of_getElem? (i := 14) rfl))) (ty := .int) (by decide)
              obtain ⟨_, _, ⟨T74, L74, k74, n74⟩, -, X74, ⟨Lc74, hQ74, l74, y74, z74⟩, st74⟩ := X63.specialBack hx (y := (⟨"com/example/pentad/pentad/tx/TempId", "<init>", "(I)V"⟩ : MethodName)) rfl hown (mvT hZ (hw _ (List.mem_of_getElem? (i := 5) rfl))) (mvT hZ (hw _ (List.mem_of_getElem? (i := 6) rfl))) (mvT hZ (hw _ (List.mem_of_getElem? (i := 7) rfl))) (by decide) (backOf (W := 4) (rm1 l Z a0 hw [] b63 p4 h63 n0 O63 A63 F63_parent g_b63 F63_order) hZ (hw _ (List.mem_of_getElem? (i := 7) rfl)) (hw _ (List.mem_of_getElem? (i := 4) rfl)) (by decide) (by decide)) (g := (mkF m 97 #[.val (.int p1), .val (.int p2), .val (.int p3), .val (.int p4), .val (.int p5), .val (.ref b12), .unset, .unset, .unset, .unset, .unset, .unset, .unset, .unset, .unset, .unset, .unset, .unset, .unset] [(.int p4), (.ref b63), (.ref b63), (.int (3 : Int32)), (.ref b25), (.ref b25)])) rfl (by rw [hml]; rfl) (Steps.refl _) (a := b63) (argsL := [(.int p4)]) (rest := [(.ref b63), (.int (3 : Int32)), (.ref b25), (.ref b25)]) (lenOf pd_6 rfl) rfl (by show 2 * 0 + _ ≤ _; exact Nat.le_of_eq rfl) (hb hby at_97) (fun _ _ => ⟨rfl, e63, (by decide : 6 + 0 ≤ _), (by decide : 20 + 0 ≤ _)⟩)
              dsimp only [Pt.U, Pt.locs, Pt.cells, Pt.slots] at X74 l74 y74 z74 st74 hQ74
              subst l74 y74 z74
              obtain ⟨rfl, Nq74, K74, P74_0, P74_1, P74_2⟩ := hQ74
              have N74 := Fr.app N62 Nq74
              have KK74 : Keep h0 T74.heap [] := Keep.trans (h := h63) K63 K74 (allS (Or.inr sz_b63) all0)
              have O74 : Old Z n0 T74.heap := O63.keep K74 (allS g_b63 all0)
              have f75 : Arv Z T74.heap b25 k25 (.object "com/example/pentad/pentad/tx/TempId") (4 : Int32) [(.ref b28), (.ref b37), (.ref b49)] .null := ((Vw62.ext E63).keep K74 (ninS ne67 nin0))
              have V76 : Arv Z T74.heap b25 k25 (.object "com/example/pentad/pentad/tx/TempId") (4 : Int32) [(.ref b28), (.ref b37), (.ref b49), .null] .null := f75.pad (pad_rep [(.ref b28), (.ref b37), (.ref b49)] .null 1)
              obtain ⟨cl77, Ar77, q77, S77, M77, Hs77, G77⟩ := id V76
              have hin77 : ¬ ((3 : Int32) < 0 ∨ cl77.slots.size ≤ ((3 : Int32)).toNatClampNeg) := inb_of S77 ⟨by decide, by decide⟩
              obtain ⟨T78, h78, X78, e78, W78, st78⟩ := stR X74 hx hZ rfl Ar77 (j := (3 : Int32)) hin77 rfl (Sto.ofV Ar77 q77 O225 (Ins.self P74_0)) (g := (mkF m 100 #[.val (.int p1), .val (.int p2), .val (.int p3), .val (.int p4), .val (.int p5), .val (.ref b12), .unset, .unset, .unset, .unset, .unset, .unset, .unset, .unset, .unset, .unset, .unset, .unset, .unset] [(.ref b63), (.int (3 : Int32)), (.ref b25), (.ref b25)])) rfl rfl (hb hby at_100)
              have K78 : Keep h0 h78 [] := KK74.wr W78 (Or.inr sz_b25)
              have O78 : Old Z n0 h78 := O74.wr W78 g_b25
              have N78 := Fr.snoc X78 N74 g_b25
              have Vw78 : Arv Z h78 b25 k25 (.object "com/example/pentad/pentad/tx/TempId") (4 : Int32) [(.ref b28), (.ref b37), (.ref b49), (.ref b63)] .null := Arv.set Ar77 q77 S77 M77 Hs77 G77 rfl W78 3 rfl (Nat.le_of_ble_eq_true rfl)
              obtain ⟨T79, h79, k79, X79, e79, E79, A79, B79, st79⟩ := newPE X78 hx hZ (hw _ (List.mem_of_getElem? (i := 0) rfl)) e78 (g := (mkF m 104 #[.val (.int p1), .val (.int p2), .val (.int p3), .val (.int p4), .val (.int p5), .val (.ref b12), .val (.ref b25), .unset, .unset, .unset, .unset, .unset, .unset, .unset, .unset, .unset, .unset, .unset, .unset] [(.int (4 : Int32))])) rfl (hb hby at_104) rfl (by decide) (cap := 4) (by decide) (by decide) (by decide) (by decide) (ad := "[I") (by decide)
              obtain ⟨b79, g79⟩ : ∃ z, z = h78.size := ⟨_, rfl⟩
              rw [← g79] at A79 B79 st79
              have f80 : Exa Z h78 b12 "[I" := (((f64.ext E63).keep K74).wr W78)
              have ne81 : b12 ≠ b79 := (own_ltn f80.lt (own_eqle g79))
              have f82 : Exa Z h78 b25 "[Lcom/example/pentad/pentad/tx/TempId;" := (((f66.ext E63).keep K74).wr W78)
              have ne83 : b25 ≠ b79 := (own_ltn f82.lt (own_eqle g79))
              have f84 : Exa Z h78 b28 "com/example/pentad/pentad/tx/TempId" := (((f68.ext E63).keep K74).wr W78)
              have ne85 : b28 ≠ b79 := (own_ltn f84.lt (own_eqle g79))
              have f86 : Exa Z h78 b37 "com/example/pentad/pentad/tx/TempId" := (((f70.ext E63).keep K74).wr W78)
              have ne87 : b37 ≠ b79 := (own_ltn f86.lt (own_eqle g79))
              have f88 : Exa Z h78 b49 "com/example/pentad/pentad/tx/TempId" := (((f72.ext E63).keep K74).wr W78)
              have ne89 : b49 ≠ b79 := (own_ltn f88.lt (own_eqle g79))
              have f90 : Exa Z h78 b63 "com/example/pentad/pentad/tx/TempId" := (P74_0.wr W78)
              have ne91 : b63 ≠ b79 := (own_ltn f90.lt (own_eqle g79))
              have g_b79 : n0 ≤ b79 := own_born O78 (own_eqle g79)
              have sz_b79 : h0.size ≤ b79 := Nat.le_trans K78.1 (own_eqle g79)
              have K79 : Keep h0 h79 [] := K78.ext E79
              have O79 : Old Z n0 h79 := O78.ext E79
              have V79 : Arv Z h79 b79 k79 .int (4 : Int32) [] (.int (0 : Int32)) := Arv.new A79 (by decide)
              have V92 : Arv Z h79 b79 k79 .int (4 : Int32) [(.int (0 : Int32))] (.int (0 : Int32)) := V79.pad (pad_rep [] (.int (0 : Int32)) 1)
              obtain ⟨cl93, Ar93, q93, S93, M93, Hs93, G93⟩ := id V92
              have hin93 : ¬ ((0 : Int32) < 0 ∨ cl93.slots.size ≤ ((0 : Int32)).toNatClampNeg) := inb_of S93 ⟨by decide, by decide⟩
              obtain ⟨T94, h94, X94, e94, W94, st94⟩ := stI X79 hx hZ e79 Ar93 (j := (0 : Int32)) hin93 (g := (mkF m 109 #[.val (.int p1), .val (.int p2), .val (.int p3), .val (.int p4), .val (.int p5), .val (.ref b12), .val (.ref b25), .unset, .unset, .unset, .unset, .unset, .unset, .unset, .unset, .unset, .unset, .unset, .unset] [(.int (0 : Int32)), (.int (0 : Int32)), (.ref b79), (.ref b79)])) rfl rfl (hb hby at_109)
              have K94 : Keep h0 h94 [] := K79.wr W94 (Or.inr sz_b79)
              have O94 : Old Z n0 h94 := O79.wr W94 g_b79
              have N94 := Fr.snoc X94 N78 g_b79
              have Vw94 : Arv Z h94 b79 k79 .int (4 : Int32) [(.int (0 : Int32))] (.int (0 : Int32)) := Arv.set Ar93 q93 S93 M93 Hs93 G93 rfl W94 0 rfl (Nat.le_of_ble_eq_true rfl)
              have V95 : Arv Z h94 b79 k79 .int (4 : Int32) [(.int (0 : Int32)), (.int (0 : Int32))] (.int (0 : Int32)) := Vw94.pad (pad_rep [(.int (0 : Int32))] (.int (0 : Int32)) 1)
              obtain ⟨cl96, Ar96, q96, S96, M96, Hs96, G96⟩ := id V95
              have hin96 : ¬ ((1 : Int32) < 0 ∨ cl96.slots.size ≤ ((1 : Int32)).toNatClampNeg) := inb_of S96 ⟨by decide, by decide⟩
              obtain ⟨T97, h97, X97, e97, W97, st97⟩ := stI X94 hx hZ e94 Ar96 (j := (1 : Int32)) hin96 (g := (mkF m 113 #[.val (.int p1), .val (.int p2), .val (.int p3), .val (.int p4), .val (.int p5), .val (.ref b12), .val (.ref b25), .unset, .unset, .unset, .unset, .unset, .unset, .unset, .unset, .unset, .unset, .unset, .unset] [(.int (1 : Int32)), (.int (1 : Int32)), (.ref b79), (.ref b79)])) rfl rfl (hb hby at_113)
              have K97 : Keep h0 h97 [] := K94.wr W97 (Or.inr sz_b79)
              have O97 : Old Z n0 h97 := O94.wr W97 g_b79
              have N97 := Fr.snoc X97 N94 g_b79
              have Vw97 : Arv Z h97 b79 k79 .int (4 : Int32) [(.int (0 : Int32)), (.int (1 : Int32))] (.int (0 : Int32)) := Arv.set Ar96 q96 S96 M96 Hs96 G96 rfl W97 1 rfl (Nat.le_of_ble_eq_true rfl)
              have V98 : Arv Z h97 b79 k79 .int (4 : Int32) [(.int (0 : Int32)), (.int (1 : Int32)), (.int (0 : Int32))] (.int (0 : Int32)) := Vw97.pad (pad_rep [(.int (0 : Int32)), (.int (1 : Int32))] (.int (0 : Int32)) 1)
              obtain ⟨cl99, Ar99, q99, S99, M99, Hs99, G99⟩ := id V98
              have hin99 : ¬ ((2 : Int32) < 0 ∨ cl99.slots.size ≤ ((2 : Int32)).toNatClampNeg) := inb_of S99 ⟨by decide, by decide⟩
              obtain ⟨T100, h100, X100, e100, W100, st100⟩ := stI X97 hx hZ e97 Ar99 (j := (2 : Int32)) hin99 (g := (mkF m 117 #[.val (.int p1), .val (.int p2), .val (.int p3), .val (.int p4), .val (.int p5), .val (.ref b12), .val (.ref b25), .unset, .unset, .unset, .unset, .unset, .unset, .unset, .unset, .unset, .unset, .unset, .unset] [(.int (2 : Int32)), (.int (2 : Int32)), (.ref b79), (.ref b79)])) rfl rfl (hb hby at_117)
              have K100 : Keep h0 h100 [] := K97.wr W100 (Or.inr sz_b79)
              have O100 : Old Z n0 h100 := O97.wr W100 g_b79
              have N100 := Fr.snoc X100 N97 g_b79
              have Vw100 : Arv Z h100 b79 k79 .int (4 : Int32) [(.int (0 : Int32)), (.int (1 : Int32)), (.int (2 : Int32))] (.int (0 : Int32)) := Arv.set Ar99 q99 S99 M99 Hs99 G99 rfl W100 2 rfl (Nat.le_of_ble_eq_true rfl)
              have V101 : Arv Z h100 b79 k79 .int (4 : Int32) [(.int (0 : Int32)), (.int (1 : Int32)), (.int (2 : Int32)), (.int (0 : Int32))] (.int (0 : Int32)) := Vw100.pad (pad_rep [(.int (0 : Int32)), (.int (1 : Int32)), (.int (2 : Int32))] (.int (0 : Int32)) 1)
              obtain ⟨cl102, Ar102, q102, S102, M102, Hs102, G102⟩ := id V101
              have hin102 : ¬ ((3 : Int32) < 0 ∨ cl102.slots.size ≤ ((3 : Int32)).toNatClampNeg) := inb_of S102 ⟨by decide, by decide⟩
              obtain ⟨T103, h103, X103, e103, W103, st103⟩ := stI X100 hx hZ e100 Ar102 (j := (3 : Int32)) hin102 (g := (mkF m 121 #[.val (.int p1), .val (.int p2), .val (.int p3), .val (.int p4), .val (.int p5), .val (.ref b12), .val (.ref b25), .unset, .unset, .unset, .unset, .unset, .unset, .unset, .unset, .unset, .unset, .unset, .unset] [(.int (3 : Int32)), (.int (3 : Int32)), (.ref b79), (.ref b79)])) rfl rfl (hb hby at_121)
              have K103 : Keep h0 h103 [] := K100.wr W103 (Or.inr sz_b79)
              have O103 : Old Z n0 h103 := O100.wr W103 g_b79
              have N103 := Fr.snoc X103 N100 g_b79
              have Vw103 : Arv Z h103 b79 k79 .int (4 : Int32) [(.int (0 : Int32)), (.int (1 : Int32)), (.int (2 : Int32)), (.int (3 : Int32))] (.int (0 : Int32)) := Arv.set Ar102 q102 S102 M102 Hs102 G102 rfl W103 3 rfl (Nat.le_of_ble_eq_true rfl)
              obtain ⟨i0, hi0⟩ := own_ix3 p5
              obtain ⟨i1, hi1⟩ := own_ix3 ((p5.toUInt32 >>> ((2 : Int32) &&& 31).toUInt32).toInt32)
              obtain ⟨i2, hi2⟩ := own_ix3 ((p5.toUInt32 >>> ((4 : Int32) &&& 31).toUInt32).toInt32)
              obtain ⟨i3, hi3⟩ := own_ix3 ((p5.toUInt32 >>> ((6 : Int32) &&& 31).toUInt32).toInt32)
              obtain ⟨i4, hi4⟩ := own_ix3 ((p5.toUInt32 >>> ((8 : Int32) &&& 31).toUInt32).toInt32)
              obtain ⟨i5, hi5⟩ := own_ix3 ((p5.toUInt32 >>> ((10 : Int32) &&& 31).toUInt32).toInt32)
              obtain ⟨nn, h_nn⟩ : ∃ z : Int32, z = (((p5.toUInt32 >>> ((12 : Int32) &&& 31).toUInt32).toInt32) &&& (3 : Int32)) := ⟨_, rfl⟩
              have hnn : nn = 0 ∨ nn = 1 ∨ nn = 2 ∨ nn = 3 := h_nn ▸ own_and3 _
              have f104 : Arv Z h103 b12 k12 .int (4 : Int32) [(.int p1), (.int p2), (.int p3), (.int p4)] (.int (0 : Int32)) := ((((((((((((((((((Vw24.ext E25).ext E28).keep K32 (ninS ne30 nin0)).other W36 ne27).ext E37).keep K44 (ninS ne39 nin0)).other W48 ne27).ext E49).keep K58 (ninS ne51 nin0)).other W62 ne27).ext E63).keep K74 (ninS ne65 nin0)).other W78 ne27).ext E79).other W94 ne81).other W97 ne81).other W100 ne81).other W103 ne81)
              have f105 : Arv Z h103 b25 k25 (.object "com/example/pentad/pentad/tx/TempId") (4 : Int32) [(.ref b28), (.ref b37), (.ref b49), (.ref b63)] .null := (((((Vw78.ext E79).other W94 ne83).other W97 ne83).other W100 ne83).other W103 ne83)
              have f106 : Exa Z h103 b28 "com/example/pentad/pentad/tx/TempId" := (((((f84.ext E79).wr W94).wr W97).wr W100).wr W103)
              have f107 : Exa Z h103 b37 "com/example/pentad/pentad/tx/TempId" := (((((f86.ext E79).wr W94).wr W97).wr W100).wr W103)
              have f108 : Exa Z h103 b49 "com/example/pentad/pentad/tx/TempId" := (((((f88.ext E79).wr W94).wr W97).wr W100).wr W103)
              have f109 : Exa Z h103 b63 "com/example/pentad/pentad/tx/TempId" := (((((f90.ext E79).wr W94).wr W97).wr W100).wr W103)
              have f110 : Fld Z h103 b28 "com/example/pentad/pentad/tx/TempId" "order" "I" (.int p1) := (((((((((((((((P32_2.other W36 (Or.inl (Ne.symm ne31))).ext E37).keep K44 (ninS ne43 nin0)).other W48 (Or.inl (Ne.symm ne31))).ext E49).keep K58 (ninS ne55 nin0)).other W62 (Or.inl (Ne.symm ne31))).ext E63).keep K74 (ninS ne69 nin0)).other W78 (Or.inl (Ne.symm ne31))).ext E79).other W94 (Or.inl ne85)).other W97 (Or.inl ne85)).other W100 (Or.inl ne85)).other W103 (Or.inl ne85))
              have f111 : Fld Z h103 b37 "com/example/pentad/pentad/tx/TempId" "order" "I" (.int p2) := ((((((((((((P44_2.other W48 (Or.inl (Ne.symm ne41))).ext E49).keep K58 (ninS ne57 nin0)).other W62 (Or.inl (Ne.symm ne41))).ext E63).keep K74 (ninS ne71 nin0)).other W78 (Or.inl (Ne.symm ne41))).ext E79).other W94 (Or.inl ne87)).other W97 (Or.inl ne87)).other W100 (Or.inl ne87)).other W103 (Or.inl ne87))
              have f112 : Fld Z h103 b49 "com/example/pentad/pentad/tx/TempId" "order" "I" (.int p3) := (((((((((P58_2.other W62 (Or.inl (Ne.symm ne53))).ext E63).keep K74 (ninS ne73 nin0)).other W78 (Or.inl (Ne.symm ne53))).ext E79).other W94 (Or.inl ne89)).other W97 (Or.inl ne89)).other W100 (Or.inl ne89)).other W103 (Or.inl ne89))
              have f113 : Fld Z h103 b63 "com/example/pentad/pentad/tx/TempId" "order" "I" (.int p4) := ((((((P74_2.other W78 (Or.inl (Ne.symm ne67))).ext E79).other W94 (Or.inl ne91)).other W97 (Or.inl ne91)).other W100 (Or.inl ne91)).other W103 (Or.inl ne91))
              have f114 : Fld Z h103 b28 "com/example/pentad/pentad/tx/TempId" "parent" "Lcom/example/pentad/pentad/tx/TempId;" (.ref b28) := (((((((((((((((P32_1.other W36 (Or.inl (Ne.symm ne31))).ext E37).keep K44 (ninS ne43 nin0)).other W48 (Or.inl (Ne.symm ne31))).ext E49).keep K58 (ninS ne55 nin0)).other W62 (Or.inl (Ne.symm ne31))).ext E63).keep K74 (ninS ne69 nin0)).other W78 (Or.inl (Ne.symm ne31))).ext E79).other W94 (Or.inl ne85)).other W97 (Or.inl ne85)).other W100 (Or.inl ne85)).other W103 (Or.inl ne85))
              have f115 : Fld Z h103 b37 "com/example/pentad/pentad/tx/TempId" "parent" "Lcom/example/pentad/pentad/tx/TempId;" (.ref b37) := ((((((((((((P44_1.other W48 (Or.inl (Ne.symm ne41))).ext E49).keep K58 (ninS ne57 nin0)).other W62 (Or.inl (Ne.symm ne41))).ext E63).keep K74 (ninS ne71 nin0)).other W78 (Or.inl (Ne.symm ne41))).ext E79).other W94 (Or.inl ne87)).other W97 (Or.inl ne87)).other W100 (Or.inl ne87)).other W103 (Or.inl ne87))
              have f116 : Fld Z h103 b49 "com/example/pentad/pentad/tx/TempId" "parent" "Lcom/example/pentad/pentad/tx/TempId;" (.ref b49) := (((((((((P58_1.other W62 (Or.inl (Ne.symm ne53))).ext E63).keep K74 (ninS ne73 nin0)).other W78 (Or.inl (Ne.symm ne53))).ext E79).other W94 (Or.inl ne89)).other W97 (Or.inl ne89)).other W100 (Or.inl ne89)).other W103 (Or.inl ne89))
              have f117 : Fld Z h103 b63 "com/example/pentad/pentad/tx/TempId" "parent" "Lcom/example/pentad/pentad/tx/TempId;" (.ref b63) := ((((((P74_1.other W78 (Or.inl (Ne.symm ne67))).ext E79).other W94 (Or.inl ne91)).other W97 (Or.inl ne91)).other W100 (Or.inl ne91)).other W103 (Or.inl ne91))
              have pre118 : ∀ t, Steps p.tables e below (T103.setTop (mkF m 182 #[.val (.int p1), .val (.int p2), .val (.int p3), .val (.int p4), .val (.int p5), .val (.ref b12), .val (.ref b25), .val (.ref b79), .val (.int (own_ix i0)), .val (.int (own_ix i1)), .val (.int (own_ix i2)), .val (.int (own_ix i3)), .val (.int (own_ix i4)), .val (.int (own_ix i5)), .val (.int nn), .unset, .unset, .unset, .unset] [])) t → Steps p.tables e below (s₁.setTop (entryFrame m #[(.int p1), (.int p2), (.int p3), (.int p4), (.int p5)] maxLocals)) t := fun t kt => pre11 t (by
                show Steps p.tables e below (s₁.setTop (mkF m 27 #[.val (.int p1), .val (.int p2), .val (.int p3), .val (.int p4), .val (.int p5), .unset, .unset, .unset, .unset, .unset, .unset, .unset, .unset, .unset, .unset, .unset, .unset, .unset, .unset] [(.int p4), (.int p3)])) _
                refine XS.icmpYes X0.here hx rfl (pc0 := 27) (pc' := 32) rfl (hb hby at_27) rfl (feq (he5 : ¬ (p3 = p4))).2 (by decide) (by decide) ?_
                show Steps p.tables e below (s₁.setTop (mkF m 32 #[.val (.int p1), .val (.int p2), .val (.int p3), .val (.int p4), .val (.int p5), .unset, .unset, .unset, .unset, .unset, .unset, .unset, .unset, .unset, .unset, .unset, .unset, .unset, .unset] [])) _
                refine XS.iconst X0.here hx rfl (hb hby at_32) ?_
                show Steps p.tables e below (s₁.setTop (mkF m 33 #[.val (.int p1), .val (.int p2), .val (.int p3), .val (.int p4), .val (.int p5), .unset, .unset, .unset, .unset, .unset, .unset, .unset, .unset, .unset, .unset, .unset, .unset, .unset, .unset] [(.int (4 : Int32))])) _
                refine st12 _ ?_
                show Steps p.tables e below (T12.setTop (mkF m 35 #[.val (.int p1), .val (.int p2), .val (.int p3), .val (.int p4), .val (.int p5), .unset, .unset, .unset, .unset, .unset, .unset, .unset, .unset, .unset, .unset, .unset, .unset, .unset, .unset] [(.ref b12)])) _
                refine XS.dup X12.here hx rfl (hb hby at_35) rfl rfl ?_
                show Steps p.tables e below (T12.setTop (mkF m 36 #[.val (.int p1), .val (.int p2), .val (.int p3), .val (.int p4), .val (.int p5), .unset, .unset, .unset, .unset, .unset, .unset, .unset, .unset, .unset, .unset, .unset, .unset, .unset, .unset] [(.ref b12), (.ref b12)])) _
                refine XS.iconst X12.here hx rfl (hb hby at_36) ?_
                show Steps p.tables e below (T12.setTop (mkF m 37 #[.val (.int p1), .val (.int p2), .val (.int p3), .val (.int p4), .val (.int p5), .unset, .unset, .unset, .unset, .unset, .unset, .unset, .unset, .unset, .unset, .unset, .unset, .unset, .unset] [(.int (0 : Int32)), (.ref b12), (.ref b12)])) _
                refine XS.iloadN X12.here hx rfl (hb hby at_37) rfl ?_
                show Steps p.tables e below (T12.setTop (mkF m 38 #[.val (.int p1), .val (.int p2), .val (.int p3), .val (.int p4), .val (.int p5), .unset, .unset, .unset, .unset, .unset, .unset, .unset, .unset, .unset, .unset, .unset, .unset, .unset, .unset] [(.int p1), (.int (0 : Int32)), (.ref b12), (.ref b12)])) _
                refine st15 _ ?_
                show Steps p.tables e below (T15.setTop (mkF m 39 #[.val (.int p1), .val (.int p2), .val (.int p3), .val (.int p4), .val (.int p5), .unset, .unset, .unset, .unset, .unset, .unset, .unset, .unset, .unset, .unset, .unset, .unset, .unset, .unset] [(.ref b12)])) _
                refine XS.dup X15.here hx rfl (hb hby at_39) rfl rfl ?_
                show Steps p.tables e below (T15.setTop (mkF m 40 #[.val (.int p1), .val (.int p2), .val (.int p3), .val (.int p4), .val (.int p5), .unset, .unset, .unset, .unset, .unset, .unset, .unset, .unset, .unset, .unset, .unset, .unset, .unset, .unset] [(.ref b12), (.ref b12)])) _
                refine XS.iconst X15.here hx rfl (hb hby at_40) ?_
                show Steps p.tables e below (T15.setTop (mkF m 41 #[.val (.int p1), .val (.int p2), .val (.int p3), .val (.int p4), .val (.int p5), .unset, .unset, .unset, .unset, .unset, .unset, .unset, .unset, .unset, .unset, .unset, .unset, .unset, .unset] [(.int (1 : Int32)), (.ref b12), (.ref b12)])) _
                refine XS.iloadN X15.here hx rfl (hb hby at_41) rfl ?_
                show Steps p.tables e below (T15.setTop (mkF m 42 #[.val (.int p1), .val (.int p2), .val (.int p3), .val (.int p4), .val (.int p5), .unset, .unset, .unset, .unset, .unset, .unset, .unset, .unset, .unset, .unset, .unset, .unset, .unset, .unset] [(.int p2), (.int (1 : Int32)), (.ref b12), (.ref b12)])) _
                refine st18 _ ?_
                show Steps p.tables e below (T18.setTop (mkF m 43 #[.val (.int p1), .val (.int p2), .val (.int p3), .val (.int p4), .val (.int p5), .unset, .unset, .unset, .unset, .unset, .unset, .unset, .unset, .unset, .unset, .unset, .unset, .unset, .unset] [(.ref b12)])) _
                refine XS.dup X18.here hx rfl (hb hby at_43) rfl rfl ?_
                show Steps p.tables e below (T18.setTop (mkF m 44 #[.val (.int p1), .val (.int p2), .val (.int p3), .val (.int p4), .val (.int p5), .unset, .unset, .unset, .unset, .unset, .unset, .unset, .unset, .unset, .unset, .unset, .unset, .unset, .unset] [(.ref b12), (.ref b12)])) _
                refine XS.iconst X18.here hx rfl (hb hby at_44) ?_
                show Steps p.tables e below (T18.setTop (mkF m 45 #[.val (.int p1), .val (.int p2), .val (.int p3), .val (.int p4), .val (.int p5), .unset, .unset, .unset, .unset, .unset, .unset, .unset, .unset, .unset, .unset, .unset, .unset, .unset, .unset] [(.int (2 : Int32)), (.ref b12), (.ref b12)])) _
                refine XS.iloadN X18.here hx rfl (hb hby at_45) rfl ?_
                show Steps p.tables e below (T18.setTop (mkF m 46 #[.val (.int p1), .val (.int p2), .val (.int p3), .val (.int p4), .val (.int p5), .unset, .unset, .unset, .unset, .unset, .unset, .unset, .unset, .unset, .unset, .unset, .unset, .unset, .unset] [(.int p3), (.int (2 : Int32)), (.ref b12), (.ref b12)])) _
                refine st21 _ ?_
                show Steps p.tables e below (T21.setTop (mkF m 47 #[.val (.int p1), .val (.int p2), .val (.int p3), .val (.int p4), .val (.int p5), .unset, .unset, .unset, .unset, .unset, .unset, .unset, .unset, .unset, .unset, .unset, .unset, .unset, .unset] [(.ref b12)])) _
                refine XS.dup X21.here hx rfl (hb hby at_47) rfl rfl ?_
                show Steps p.tables e below (T21.setTop (mkF m 48 #[.val (.int p1), .val (.int p2), .val (.int p3), .val (.int p4), .val (.int p5), .unset, .unset, .unset, .unset, .unset, .unset, .unset, .unset, .unset, .unset, .unset, .unset, .unset, .unset] [(.ref b12), (.ref b12)])) _
                refine XS.iconst X21.here hx rfl (hb hby at_48) ?_
                show Steps p.tables e below (T21.setTop (mkF m 49 #[.val (.int p1), .val (.int p2), .val (.int p3), .val (.int p4), .val (.int p5), .unset, .unset, .unset, .unset, .unset, .unset, .unset, .unset, .unset, .unset, .unset, .unset, .unset, .unset] [(.int (3 : Int32)), (.ref b12), (.ref b12)])) _
                refine XS.iloadN X21.here hx rfl (hb hby at_49) rfl ?_
                show Steps p.tables e below (T21.setTop (mkF m 50 #[.val (.int p1), .val (.int p2), .val (.int p3), .val (.int p4), .val (.int p5), .unset, .unset, .unset, .unset, .unset, .unset, .unset, .unset, .unset, .unset, .unset, .unset, .unset, .unset] [(.int p4), (.int (3 : Int32)), (.ref b12), (.ref b12)])) _
                refine st24 _ ?_
                show Steps p.tables e below (T24.setTop (mkF m 51 #[.val (.int p1), .val (.int p2), .val (.int p3), .val (.int p4), .val (.int p5), .unset, .unset, .unset, .unset, .unset, .unset, .unset, .unset, .unset, .unset, .unset, .unset, .unset, .unset] [(.ref b12)])) _
                refine XS.astore X24.here hx rfl (hb hby at_51) rfl rfl (l' := #[.val (.int p1), .val (.int p2), .val (.int p3), .val (.int p4), .val (.int p5), .val (.ref b12), .unset, .unset, .unset, .unset, .unset, .unset, .unset, .unset, .unset, .unset, .unset, .unset, .unset]) rfl ?_
                show Steps p.tables e below (T24.setTop (mkF m 53 #[.val (.int p1), .val (.int p2), .val (.int p3), .val (.int p4), .val (.int p5), .val (.ref b12), .unset, .unset, .unset, .unset, .unset, .unset, .unset, .unset, .unset, .unset, .unset, .unset, .unset] [])) _
                refine XS.iconst X24.here hx rfl (hb hby at_53) ?_
                show Steps p.tables e below (T24.setTop (mkF m 54 #[.val (.int p1), .val (.int p2), .val (.int p3), .val (.int p4), .val (.int p5), .val (.ref b12), .unset, .unset, .unset, .unset, .unset, .unset, .unset, .unset, .unset, .unset, .unset, .unset, .unset] [(.int (4 : Int32))])) _
                refine st25 _ ?_
                show Steps p.tables e below (T25.setTop (mkF m 57 #[.val (.int p1), .val (.int p2), .val (.int p3), .val (.int p4), .val (.int p5), .val (.ref b12), .unset, .unset, .unset, .unset, .unset, .unset, .unset, .unset, .unset, .unset, .unset, .unset, .unset] [(.ref b25)])) _
                refine XS.dup X25.here hx rfl (hb hby at_57) rfl rfl ?_
                show Steps p.tables e below (T25.setTop (mkF m 58 #[.val (.int p1), .val (.int p2), .val (.int p3), .val (.int p4), .val (.int p5), .val (.ref b12), .unset, .unset, .unset, .unset, .unset, .unset, .unset, .unset, .unset, .unset, .unset, .unset, .unset] [(.ref b25), (.ref b25)])) _
                refine XS.iconst X25.here hx rfl (hb hby at_58) ?_
                show Steps p.tables e below (T25.setTop (mkF m 59 #[.val (.int p1), .val (.int p2), .val (.int p3), .val (.int p4), .val (.int p5), .val (.ref b12), .unset, .unset, .unset, .unset, .unset, .unset, .unset, .unset, .unset, .unset, .unset, .unset, .unset] [(.int (0 : Int32)), (.ref b25), (.ref b25)])) _
                refine st28 _ ?_
                show Steps p.tables e below (T28.setTop (mkF m 62 #[.val (.int p1), .val (.int p2), .val (.int p3), .val (.int p4), .val (.int p5), .val (.ref b12), .unset, .unset, .unset, .unset, .unset, .unset, .unset, .unset, .unset, .unset, .unset, .unset, .unset] [(.ref b28), (.int (0 : Int32)), (.ref b25), (.ref b25)])) _
                refine XS.dup X28.here hx rfl (hb hby at_62) rfl rfl ?_
                show Steps p.tables e below (T28.setTop (mkF m 63 #[.val (.int p1), .val (.int p2), .val (.int p3), .val (.int p4), .val (.int p5), .val (.ref b12), .unset, .unset, .unset, .unset, .unset, .unset, .unset, .unset, .unset, .unset, .unset, .unset, .unset] [(.ref b28), (.ref b28), (.int (0 : Int32)), (.ref b25), (.ref b25)])) _
                refine XS.iloadN X28.here hx rfl (hb hby at_63) rfl ?_
                show Steps p.tables e below (T28.setTop (mkF m 64 #[.val (.int p1), .val (.int p2), .val (.int p3), .val (.int p4), .val (.int p5), .val (.ref b12), .unset, .unset, .unset, .unset, .unset, .unset, .unset, .unset, .unset, .unset, .unset, .unset, .unset] [(.int p1), (.ref b28), (.ref b28), (.int (0 : Int32)), (.ref b25), (.ref b25)])) _
                refine st32.trans ?_
                show Steps p.tables e below (T32.setTop (mkF m 67 #[.val (.int p1), .val (.int p2), .val (.int p3), .val (.int p4), .val (.int p5), .val (.ref b12), .unset, .unset, .unset, .unset, .unset, .unset, .unset, .unset, .unset, .unset, .unset, .unset, .unset] [(.ref b28), (.int (0 : Int32)), (.ref b25), (.ref b25)])) _
                refine st36 _ ?_
                show Steps p.tables e below (T36.setTop (mkF m 68 #[.val (.int p1), .val (.int p2), .val (.int p3), .val (.int p4), .val (.int p5), .val (.ref b12), .unset, .unset, .unset, .unset, .unset, .unset, .unset, .unset, .unset, .unset, .unset, .unset, .unset] [(.ref b25)])) _
                refine XS.dup X36.here hx rfl (hb hby at_68) rfl rfl ?_
                show Steps p.tables e below (T36.setTop (mkF m 69 #[.val (.int p1), .val (.int p2), .val (.int p3), .val (.int p4), .val (.int p5), .val (.ref b12), .unset, .unset, .unset, .unset, .unset, .unset, .unset, .unset, .unset, .unset, .unset, .unset, .unset] [(.ref b25), (.ref b25)])) _
                refine XS.iconst X36.here hx rfl (hb hby at_69) ?_
                show Steps p.tables e below (T36.setTop (mkF m 70 #[.val (.int p1), .val (.int p2), .val (.int p3), .val (.int p4), .val (.int p5), .val (.ref b12), .unset, .unset, .unset, .unset, .unset, .unset, .unset, .unset, .unset, .unset, .unset, .unset, .unset] [(.int (1 : Int32)), (.ref b25), (.ref b25)])) _
                refine st37 _ ?_
                show Steps p.tables e below (T37.setTop (mkF m 73 #[.val (.int p1), .val (.int p2), .val (.int p3), .val (.int p4), .val (.int p5), .val (.ref b12), .unset, .unset, .unset, .unset, .unset, .unset, .unset, .unset, .unset, .unset, .unset, .unset, .unset] [(.ref b37), (.int (1 : Int32)), (.ref b25), (.ref b25)])) _
                refine XS.dup X37.here hx rfl (hb hby at_73) rfl rfl ?_
                show Steps p.tables e below (T37.setTop (mkF m 74 #[.val (.int p1), .val (.int p2), .val (.int p3), .val (.int p4), .val (.int p5), .val (.ref b12), .unset, .unset, .unset, .unset, .unset, .unset, .unset, .unset, .unset, .unset, .unset, .unset, .unset] [(.ref b37), (.ref b37), (.int (1 : Int32)), (.ref b25), (.ref b25)])) _
                refine XS.iloadN X37.here hx rfl (hb hby at_74) rfl ?_
                show Steps p.tables e below (T37.setTop (mkF m 75 #[.val (.int p1), .val (.int p2), .val (.int p3), .val (.int p4), .val (.int p5), .val (.ref b12), .unset, .unset, .unset, .unset, .unset, .unset, .unset, .unset, .unset, .unset, .unset, .unset, .unset] [(.int p2), (.ref b37), (.ref b37), (.int (1 : Int32)), (.ref b25), (.ref b25)])) _
                refine st44.trans ?_
                show Steps p.tables e below (T44.setTop (mkF m 78 #[.val (.int p1), .val (.int p2), .val (.int p3), .val (.int p4), .val (.int p5), .val (.ref b12), .unset, .unset, .unset, .unset, .unset, .unset, .unset, .unset, .unset, .unset, .unset, .unset, .unset] [(.ref b37), (.int (1 : Int32)), (.ref b25), (.ref b25)])) _
                refine st48 _ ?_
                show Steps p.tables e below (T48.setTop (mkF m 79 #[.val (.int p1), .val (.int p2), .val (.int p3), .val (.int p4), .val (.int p5), .val (.ref b12), .unset, .unset, .unset, .unset, .unset, .unset, .unset, .unset, .unset, .unset, .unset, .unset, .unset] [(.ref b25)])) _
                refine XS.dup X48.here hx rfl (hb hby at_79) rfl rfl ?_
                show Steps p.tables e below (T48.setTop (mkF m 80 #[.val (.int p1), .val (.int p2), .val (.int p3), .val (.int p4), .val (.int p5), .val (.ref b12), .unset, .unset, .unset, .unset, .unset, .unset, .unset, .unset, .unset, .unset, .unset, .unset, .unset] [(.ref b25), (.ref b25)])) _
                refine XS.iconst X48.here hx rfl (hb hby at_80) ?_
                show Steps p.tables e below (T48.setTop (mkF m 81 #[.val (.int p1), .val (.int p2), .val (.int p3), .val (.int p4), .val (.int p5), .val (.ref b12), .unset, .unset, .unset, .unset, .unset, .unset, .unset, .unset, .unset, .unset, .unset, .unset, .unset] [(.int (2 : Int32)), (.ref b25), (.ref b25)])) _
                refine st49 _ ?_
                show Steps p.tables e below (T49.setTop (mkF m 84 #[.val (.int p1), .val (.int p2), .val (.int p3), .val (.int p4), .val (.int p5), .val (.ref b12), .unset, .unset, .unset, .unset, .unset, .unset, .unset, .unset, .unset, .unset, .unset, .unset, .unset] [(.ref b49), (.int (2 : Int32)), (.ref b25), (.ref b25)])) _
                refine XS.dup X49.here hx rfl (hb hby at_84) rfl rfl ?_
                show Steps p.tables e below (T49.setTop (mkF m 85 #[.val (.int p1), .val (.int p2), .val (.int p3), .val (.int p4), .val (.int p5), .val (.ref b12), .unset, .unset, .unset, .unset, .unset, .unset, .unset, .unset, .unset, .unset, .unset, .unset, .unset] [(.ref b49), (.ref b49), (.int (2 : Int32)), (.ref b25), (.ref b25)])) _
                refine XS.iloadN X49.here hx rfl (hb hby at_85) rfl ?_
                show Steps p.tables e below (T49.setTop (mkF m 86 #[.val (.int p1), .val (.int p2), .val (.int p3), .val (.int p4), .val (.int p5), .val (.ref b12), .unset, .unset, .unset, .unset, .unset, .unset, .unset, .unset, .unset, .unset, .unset, .unset, .unset] [(.int p3), (.ref b49), (.ref b49), (.int (2 : Int32)), (.ref b25), (.ref b25)])) _
                refine st58.trans ?_
                show Steps p.tables e below (T58.setTop (mkF m 89 #[.val (.int p1), .val (.int p2), .val (.int p3), .val (.int p4), .val (.int p5), .val (.ref b12), .unset, .unset, .unset, .unset, .unset, .unset, .unset, .unset, .unset, .unset, .unset, .unset, .unset] [(.ref b49), (.int (2 : Int32)), (.ref b25), (.ref b25)])) _
                refine st62 _ ?_
                show Steps p.tables e below (T62.setTop (mkF m 90 #[.val (.int p1), .val (.int p2), .val (.int p3), .val (.int p4), .val (.int p5), .val (.ref b12), .unset, .unset, .unset, .unset, .unset, .unset, .unset, .unset, .unset, .unset, .unset, .unset, .unset] [(.ref b25)])) _
                refine XS.dup X62.here hx rfl (hb hby at_90) rfl rfl ?_
                show Steps p.tables e below (T62.setTop (mkF m 91 #[.val (.int p1), .val (.int p2), .val (.int p3), .val (.int p4), .val (.int p5), .val (.ref b12), .unset, .unset, .unset, .unset, .unset, .unset, .unset, .unset, .unset, .unset, .unset, .unset, .unset] [(.ref b25), (.ref b25)])) _
                refine XS.iconst X62.here hx rfl (hb hby at_91) ?_
                show Steps p.tables e below (T62.setTop (mkF m 92 #[.val (.int p1), .val (.int p2), .val (.int p3), .val (.int p4), .val (.int p5), .val (.ref b12), .unset, .unset, .unset, .unset, .unset, .unset, .unset, .unset, .unset, .unset, .unset, .unset, .unset] [(.int (3 : Int32)), (.ref b25), (.ref b25)])) _
                refine st63 _ ?_
                show Steps p.tables e below (T63.setTop (mkF m 95 #[.val (.int p1), .val (.int p2), .val (.int p3), .val (.int p4), .val (.int p5), .val (.ref b12), .unset, .unset, .unset, .unset, .unset, .unset, .unset, .unset, .unset, .unset, .unset, .unset, .unset] [(.ref b63), (.int (3 : Int32)), (.ref b25), (.ref b25)])) _
                refine XS.dup X63.here hx rfl (hb hby at_95) rfl rfl ?_
                show Steps p.tables e below (T63.setTop (mkF m 96 #[.val (.int p1), .val (.int p2), .val (.int p3), .val (.int p4), .val (.int p5), .val (.ref b12), .unset, .unset, .unset, .unset, .unset, .unset, .unset, .unset, .unset, .unset, .unset, .unset, .unset] [(.ref b63), (.ref b63), (.int (3 : Int32)), (.ref b25), (.ref b25)])) _
                refine XS.iloadN X63.here hx rfl (hb hby at_96) rfl ?_
                show Steps p.tables e below (T63.setTop (mkF m 97 #[.val (.int p1), .val (.int p2), .val (.int p3), .val (.int p4), .val (.int p5), .val (.ref b12), .unset, .unset, .unset, .unset, .unset, .unset, .unset, .unset, .unset, .unset, .unset, .unset, .unset] [(.int p4), (.ref b63), (.ref b63), (.int (3 : Int32)), (.ref b25), (.ref b25)])) _
                refine st74.trans ?_
                show Steps p.tables e below (T74.setTop (mkF m 100 #[.val (.int p1), .val (.int p2), .val (.int p3), .val (.int p4), .val (.int p5), .val (.ref b12), .unset, .unset, .unset, .unset, .unset, .unset, .unset, .unset, .unset, .unset, .unset, .unset, .unset] [(.ref b63), (.int (3 : Int32)), (.ref b25), (.ref b25)])) _
                refine st78 _ ?_
                show Steps p.tables e below (T78.setTop (mkF m 101 #[.val (.int p1), .val (.int p2), .val (.int p3), .val (.int p4), .val (.int p5), .val (.ref b12), .unset, .unset, .unset, .unset, .unset, .unset, .unset, .unset, .unset, .unset, .unset, .unset, .unset] [(.ref b25)])) _
                refine XS.astore X78.here hx rfl (hb hby at_101) rfl rfl (l' := #[.val (.int p1), .val (.int p2), .val (.int p3), .val (.int p4), .val (.int p5), .val (.ref b12), .val (.ref b25), .unset, .unset, .unset, .unset, .unset, .unset, .unset, .unset, .unset, .unset, .unset, .unset]) rfl ?_
                show Steps p.tables e below (T78.setTop (mkF m 103 #[.val (.int p1), .val (.int p2), .val (.int p3), .val (.int p4), .val (.int p5), .val (.ref b12), .val (.ref b25), .unset, .unset, .unset, .unset, .unset, .unset, .unset, .unset, .unset, .unset, .unset, .unset] [])) _
                refine XS.iconst X78.here hx rfl (hb hby at_103) ?_
                show Steps p.tables e below (T78.setTop (mkF m 104 #[.val (.int p1), .val (.int p2), .val (.int p3), .val (.int p4), .val (.int p5), .val (.ref b12), .val (.ref b25), .unset, .unset, .unset, .unset, .unset, .unset, .unset, .unset, .unset, .unset, .unset, .unset] [(.int (4 : Int32))])) _
                refine st79 _ ?_
                show Steps p.tables e below (T79.setTop (mkF m 106 #[.val (.int p1), .val (.int p2), .val (.int p3), .val (.int p4), .val (.int p5), .val (.ref b12), .val (.ref b25), .unset, .unset, .unset, .unset, .unset, .unset, .unset, .unset, .unset, .unset, .unset, .unset] [(.ref b79)])) _
                refine XS.dup X79.here hx rfl (hb hby at_106) rfl rfl ?_
                show Steps p.tables e below (T79.setTop (mkF m 107 #[.val (.int p1), .val (.int p2), .val (.int p3), .val (.int p4), .val (.int p5), .val (.ref b12), .val (.ref b25), .unset, .unset, .unset, .unset, .unset, .unset, .unset, .unset, .unset, .unset, .unset, .unset] [(.ref b79), (.ref b79)])) _
                refine XS.iconst X79.here hx rfl (hb hby at_107) ?_
                show Steps p.tables e below (T79.setTop (mkF m 108 #[.val (.int p1), .val (.int p2), .val (.int p3), .val (.int p4), .val (.int p5), .val (.ref b12), .val (.ref b25), .unset, .unset, .unset, .unset, .unset, .unset, .unset, .unset, .unset, .unset, .unset, .unset] [(.int (0 : Int32)), (.ref b79), (.ref b79)])) _
                refine XS.iconst X79.here hx rfl (hb hby at_108) ?_
                show Steps p.tables e below (T79.setTop (mkF m 109 #[.val (.int p1), .val (.int p2), .val (.int p3), .val (.int p4), .val (.int p5), .val (.ref b12), .val (.ref b25), .unset, .unset, .unset, .unset, .unset, .unset, .unset, .unset, .unset, .unset, .unset, .unset] [(.int (0 : Int32)), (.int (0 : Int32)), (.ref b79), (.ref b79)])) _
                refine st94 _ ?_
                show Steps p.tables e below (T94.setTop (mkF m 110 #[.val (.int p1), .val (.int p2), .val (.int p3), .val (.int p4), .val (.int p5), .val (.ref b12), .val (.ref b25), .unset, .unset, .unset, .unset, .unset, .unset, .unset, .unset, .unset, .unset, .unset, .unset] [(.ref b79)])) _
                refine XS.dup X94.here hx rfl (hb hby at_110) rfl rfl ?_
                show Steps p.tables e below (T94.setTop (mkF m 111 #[.val (.int p1), .val (.int p2), .val (.int p3), .val (.int p4), .val (.int p5), .val (.ref b12), .val (.ref b25), .unset, .unset, .unset, .unset, .unset, .unset, .unset, .unset, .unset, .unset, .unset, .unset] [(.ref b79), (.ref b79)])) _
                refine XS.iconst X94.here hx rfl (hb hby at_111) ?_
                show Steps p.tables e below (T94.setTop (mkF m 112 #[.val (.int p1), .val (.int p2), .val (.int p3), .val (.int p4), .val (.int p5), .val (.ref b12), .val (.ref b25), .unset, .unset, .unset, .unset, .unset, .unset, .unset, .unset, .unset, .unset, .unset, .unset] [(.int (1 : Int32)), (.ref b79), (.ref b79)])) _
                refine XS.iconst X94.here hx rfl (hb hby at_112) ?_
                show Steps p.tables e below (T94.setTop (mkF m 113 #[.val (.int p1), .val (.int p2), .val (.int p3), .val (.int p4), .val (.int p5), .val (.ref b12), .val (.ref b25), .unset, .unset, .unset, .unset, .unset, .unset, .unset, .unset, .unset, .unset, .unset, .unset] [(.int (1 : Int32)), (.int (1 : Int32)), (.ref b79), (.ref b79)])) _
                refine st97 _ ?_
                show Steps p.tables e below (T97.setTop (mkF m 114 #[.val (.int p1), .val (.int p2), .val (.int p3), .val (.int p4), .val (.int p5), .val (.ref b12), .val (.ref b25), .unset, .unset, .unset, .unset, .unset, .unset, .unset, .unset, .unset, .unset, .unset, .unset] [(.ref b79)])) _
                refine XS.dup X97.here hx rfl (hb hby at_114) rfl rfl ?_
                show Steps p.tables e below (T97.setTop (mkF m 115 #[.val (.int p1), .val (.int p2), .val (.int p3), .val (.int p4), .val (.int p5), .val (.ref b12), .val (.ref b25), .unset, .unset, .unset, .unset, .unset, .unset, .unset, .unset, .unset, .unset, .unset, .unset] [(.ref b79), (.ref b79)])) _
                refine XS.iconst X97.here hx rfl (hb hby at_115) ?_
                show Steps p.tables e below (T97.setTop (mkF m 116 #[.val (.int p1), .val (.int p2), .val (.int p3), .val (.int p4), .val (.int p5), .val (.ref b12), .val (.ref b25), .unset, .unset, .unset, .unset, .unset, .unset, .unset, .unset, .unset, .unset, .unset, .unset] [(.int (2 : Int32)), (.ref b79), (.ref b79)])) _
                refine XS.iconst X97.here hx rfl (hb hby at_116) ?_
                show Steps p.tables e below (T97.setTop (mkF m 117 #[.val (.int p1), .val (.int p2), .val (.int p3), .val (.int p4), .val (.int p5), .val (.ref b12), .val (.ref b25), .unset, .unset, .unset, .unset, .unset, .unset, .unset, .unset, .unset, .unset, .unset, .unset] [(.int (2 : Int32)), (.int (2 : Int32)), (.ref b79), (.ref b79)])) _
                refine st100 _ ?_
                show Steps p.tables e below (T100.setTop (mkF m 118 #[.val (.int p1), .val (.int p2), .val (.int p3), .val (.int p4), .val (.int p5), .val (.ref b12), .val (.ref b25), .unset, .unset, .unset, .unset, .unset, .unset, .unset, .unset, .unset, .unset, .unset, .unset] [(.ref b79)])) _
                refine XS.dup X100.here hx rfl (hb hby at_118) rfl rfl ?_
                show Steps p.tables e below (T100.setTop (mkF m 119 #[.val (.int p1), .val (.int p2), .val (.int p3), .val (.int p4), .val (.int p5), .val (.ref b12), .val (.ref b25), .unset, .unset, .unset, .unset, .unset, .unset, .unset, .unset, .unset, .unset, .unset, .unset] [(.ref b79), (.ref b79)])) _
                refine XS.iconst X100.here hx rfl (hb hby at_119) ?_
                show Steps p.tables e below (T100.setTop (mkF m 120 #[.val (.int p1), .val (.int p2), .val (.int p3), .val (.int p4), .val (.int p5), .val (.ref b12), .val (.ref b25), .unset, .unset, .unset, .unset, .unset, .unset, .unset, .unset, .unset, .unset, .unset, .unset] [(.int (3 : Int32)), (.ref b79), (.ref b79)])) _
                refine XS.iconst X100.here hx rfl (hb hby at_120) ?_
                show Steps p.tables e below (T100.setTop (mkF m 121 #[.val (.int p1), .val (.int p2), .val (.int p3), .val (.int p4), .val (.int p5), .val (.ref b12), .val (.ref b25), .unset, .unset, .unset, .unset, .unset, .unset, .unset, .unset, .unset, .unset, .unset, .unset] [(.int (3 : Int32)), (.int (3 : Int32)), (.ref b79), (.ref b79)])) _
                refine st103 _ ?_
                show Steps p.tables e below (T103.setTop (mkF m 122 #[.val (.int p1), .val (.int p2), .val (.int p3), .val (.int p4), .val (.int p5), .val (.ref b12), .val (.ref b25), .unset, .unset, .unset, .unset, .unset, .unset, .unset, .unset, .unset, .unset, .unset, .unset] [(.ref b79)])) _
                refine XS.astore X103.here hx rfl (hb hby at_122) rfl rfl (l' := #[.val (.int p1), .val (.int p2), .val (.int p3), .val (.int p4), .val (.int p5), .val (.ref b12), .val (.ref b25), .val (.ref b79), .unset, .unset, .unset, .unset, .unset, .unset, .unset, .unset, .unset, .unset, .unset]) rfl ?_
                show Steps p.tables e below (T103.setTop (mkF m 124 #[.val (.int p1), .val (.int p2), .val (.int p3), .val (.int p4), .val (.int p5), .val (.ref b12), .val (.ref b25), .val (.ref b79), .unset, .unset, .unset, .unset, .unset, .unset, .unset, .unset, .unset, .unset, .unset] [])) _
                refine XS.iload X103.here hx rfl (hb hby at_124) rfl ?_
                show Steps p.tables e below (T103.setTop (mkF m 126 #[.val (.int p1), .val (.int p2), .val (.int p3), .val (.int p4), .val (.int p5), .val (.ref b12), .val (.ref b25), .val (.ref b79), .unset, .unset, .unset, .unset, .unset, .unset, .unset, .unset, .unset, .unset, .unset] [(.int p5)])) _
                refine XS.iconst X103.here hx rfl (hb hby at_126) ?_
                show Steps p.tables e below (T103.setTop (mkF m 127 #[.val (.int p1), .val (.int p2), .val (.int p3), .val (.int p4), .val (.int p5), .val (.ref b12), .val (.ref b25), .val (.ref b79), .unset, .unset, .unset, .unset, .unset, .unset, .unset, .unset, .unset, .unset, .unset] [(.int (3 : Int32)), (.int p5)])) _
                refine XS.iand X103.here hx rfl (hb hby at_127) rfl ?_
                show Steps p.tables e below (T103.setTop (mkF m 128 #[.val (.int p1), .val (.int p2), .val (.int p3), .val (.int p4), .val (.int p5), .val (.ref b12), .val (.ref b25), .val (.ref b79), .unset, .unset, .unset, .unset, .unset, .unset, .unset, .unset, .unset, .unset, .unset] [(.int (p5 &&& (3 : Int32)))])) _
                refine XS.istore X103.here hx rfl (hb hby at_128) rfl (l' := #[.val (.int p1), .val (.int p2), .val (.int p3), .val (.int p4), .val (.int p5), .val (.ref b12), .val (.ref b25), .val (.ref b79), .val (.int (p5 &&& (3 : Int32))), .unset, .unset, .unset, .unset, .unset, .unset, .unset, .unset, .unset, .unset]) rfl ?_
                show Steps p.tables e below (T103.setTop (mkF m 130 #[.val (.int p1), .val (.int p2), .val (.int p3), .val (.int p4), .val (.int p5), .val (.ref b12), .val (.ref b25), .val (.ref b79), .val (.int (p5 &&& (3 : Int32))), .unset, .unset, .unset, .unset, .unset, .unset, .unset, .unset, .unset, .unset] [])) _
                refine XS.iload X103.here hx rfl (hb hby at_130) rfl ?_
                show Steps p.tables e below (T103.setTop (mkF m 132 #[.val (.int p1), .val (.int p2), .val (.int p3), .val (.int p4), .val (.int p5), .val (.ref b12), .val (.ref b25), .val (.ref b79), .val (.int (p5 &&& (3 : Int32))), .unset, .unset, .unset, .unset, .unset, .unset, .unset, .unset, .unset, .unset] [(.int p5)])) _
                refine XS.iconst X103.here hx rfl (hb hby at_132) ?_
                show Steps p.tables e below (T103.setTop (mkF m 133 #[.val (.int p1), .val (.int p2), .val (.int p3), .val (.int p4), .val (.int p5), .val (.ref b12), .val (.ref b25), .val (.ref b79), .val (.int (p5 &&& (3 : Int32))), .unset, .unset, .unset, .unset, .unset, .unset, .unset, .unset, .unset, .unset] [(.int (2 : Int32)), (.int p5)])) _
                refine XS.iushr X103.here hx rfl (hb hby at_133) rfl ?_
                show Steps p.tables e below (T103.setTop (mkF m 134 #[.val (.int p1), .val (.int p2), .val (.int p3), .val (.int p4), .val (.int p5), .val (.ref b12), .val (.ref b25), .val (.ref b79), .val (.int (p5 &&& (3 : Int32))), .unset, .unset, .unset, .unset, .unset, .unset, .unset, .unset, .unset, .unset] [(.int ((p5.toUInt32 >>> ((2 : Int32) &&& 31).toUInt32).toInt32))])) _
                refine XS.iconst X103.here hx rfl (hb hby at_134) ?_
                show Steps p.tables e below (T103.setTop (mkF m 135 #[.val (.int p1), .val (.int p2), .val (.int p3), .val (.int p4), .val (.int p5), .val (.ref b12), .val (.ref b25), .val (.ref b79), .val (.int (p5 &&& (3 : Int32))), .unset, .unset, .unset, .unset, .unset, .unset, .unset, .unset, .unset, .unset] [(.int (3 : Int32)), (.int ((p5.toUInt32 >>> ((2 : Int32) &&& 31).toUInt32).toInt32))])) _
                refine XS.iand X103.here hx rfl (hb hby at_135) rfl ?_
                show Steps p.tables e below (T103.setTop (mkF m 136 #[.val (.int p1), .val (.int p2), .val (.int p3), .val (.int p4), .val (.int p5), .val (.ref b12), .val (.ref b25), .val (.ref b79), .val (.int (p5 &&& (3 : Int32))), .unset, .unset, .unset, .unset, .unset, .unset, .unset, .unset, .unset, .unset] [(.int (((p5.toUInt32 >>> ((2 : Int32) &&& 31).toUInt32).toInt32) &&& (3 : Int32)))])) _
                refine XS.istore X103.here hx rfl (hb hby at_136) rfl (l' := #[.val (.int p1), .val (.int p2), .val (.int p3), .val (.int p4), .val (.int p5), .val (.ref b12), .val (.ref b25), .val (.ref b79), .val (.int (p5 &&& (3 : Int32))), .val (.int (((p5.toUInt32 >>> ((2 : Int32) &&& 31).toUInt32).toInt32) &&& (3 : Int32))), .unset, .unset, .unset, .unset, .unset, .unset, .unset, .unset, .unset]) rfl ?_
                show Steps p.tables e below (T103.setTop (mkF m 138 #[.val (.int p1), .val (.int p2), .val (.int p3), .val (.int p4), .val (.int p5), .val (.ref b12), .val (.ref b25), .val (.ref b79), .val (.int (p5 &&& (3 : Int32))), .val (.int (((p5.toUInt32 >>> ((2 : Int32) &&& 31).toUInt32).toInt32) &&& (3 : Int32))), .unset, .unset, .unset, .unset, .unset, .unset, .unset, .unset, .unset] [])) _
                refine XS.iload X103.here hx rfl (hb hby at_138) rfl ?_
                show Steps p.tables e below (T103.setTop (mkF m 140 #[.val (.int p1), .val (.int p2), .val (.int p3), .val (.int p4), .val (.int p5), .val (.ref b12), .val (.ref b25), .val (.ref b79), .val (.int (p5 &&& (3 : Int32))), .val (.int (((p5.toUInt32 >>> ((2 : Int32) &&& 31).toUInt32).toInt32) &&& (3 : Int32))), .unset, .unset, .unset, .unset, .unset, .unset, .unset, .unset, .unset] [(.int p5)])) _
                refine XS.iconst X103.here hx rfl (hb hby at_140) ?_
                show Steps p.tables e below (T103.setTop (mkF m 141 #[.val (.int p1), .val (.int p2), .val (.int p3), .val (.int p4), .val (.int p5), .val (.ref b12), .val (.ref b25), .val (.ref b79), .val (.int (p5 &&& (3 : Int32))), .val (.int (((p5.toUInt32 >>> ((2 : Int32) &&& 31).toUInt32).toInt32) &&& (3 : Int32))), .unset, .unset, .unset, .unset, .unset, .unset, .unset, .unset, .unset] [(.int (4 : Int32)), (.int p5)])) _
                refine XS.iushr X103.here hx rfl (hb hby at_141) rfl ?_
                show Steps p.tables e below (T103.setTop (mkF m 142 #[.val (.int p1), .val (.int p2), .val (.int p3), .val (.int p4), .val (.int p5), .val (.ref b12), .val (.ref b25), .val (.ref b79), .val (.int (p5 &&& (3 : Int32))), .val (.int (((p5.toUInt32 >>> ((2 : Int32) &&& 31).toUInt32).toInt32) &&& (3 : Int32))), .unset, .unset, .unset, .unset, .unset, .unset, .unset, .unset, .unset] [(.int ((p5.toUInt32 >>> ((4 : Int32) &&& 31).toUInt32).toInt32))])) _
                refine XS.iconst X103.here hx rfl (hb hby at_142) ?_
                show Steps p.tables e below (T103.setTop (mkF m 143 #[.val (.int p1), .val (.int p2), .val (.int p3), .val (.int p4), .val (.int p5), .val (.ref b12), .val (.ref b25), .val (.ref b79), .val (.int (p5 &&& (3 : Int32))), .val (.int (((p5.toUInt32 >>> ((2 : Int32) &&& 31).toUInt32).toInt32) &&& (3 : Int32))), .unset, .unset, .unset, .unset, .unset, .unset, .unset, .unset, .unset] [(.int (3 : Int32)), (.int ((p5.toUInt32 >>> ((4 : Int32) &&& 31).toUInt32).toInt32))])) _
                refine XS.iand X103.here hx rfl (hb hby at_143) rfl ?_
                show Steps p.tables e below (T103.setTop (mkF m 144 #[.val (.int p1), .val (.int p2), .val (.int p3), .val (.int p4), .val (.int p5), .val (.ref b12), .val (.ref b25), .val (.ref b79), .val (.int (p5 &&& (3 : Int32))), .val (.int (((p5.toUInt32 >>> ((2 : Int32) &&& 31).toUInt32).toInt32) &&& (3 : Int32))), .unset, .unset, .unset, .unset, .unset, .unset, .unset, .unset, .unset] [(.int (((p5.toUInt32 >>> ((4 : Int32) &&& 31).toUInt32).toInt32) &&& (3 : Int32)))])) _
                refine XS.istore X103.here hx rfl (hb hby at_144) rfl (l' := #[.val (.int p1), .val (.int p2), .val (.int p3), .val (.int p4), .val (.int p5), .val (.ref b12), .val (.ref b25), .val (.ref b79), .val (.int (p5 &&& (3 : Int32))), .val (.int (((p5.toUInt32 >>> ((2 : Int32) &&& 31).toUInt32).toInt32) &&& (3 : Int32))), .val (.int (((p5.toUInt32 >>> ((4 : Int32) &&& 31).toUInt32).toInt32) &&& (3 : Int32))), .unset, .unset, .unset, .unset, .unset, .unset, .unset, .unset]) rfl ?_
                show Steps p.tables e below (T103.setTop (mkF m 146 #[.val (.int p1), .val (.int p2), .val (.int p3), .val (.int p4), .val (.int p5), .val (.ref b12), .val (.ref b25), .val (.ref b79), .val (.int (p5 &&& (3 : Int32))), .val (.int (((p5.toUInt32 >>> ((2 : Int32) &&& 31).toUInt32).toInt32) &&& (3 : Int32))), .val (.int (((p5.toUInt32 >>> ((4 : Int32) &&& 31).toUInt32).toInt32) &&& (3 : Int32))), .unset, .unset, .unset, .unset, .unset, .unset, .unset, .unset] [])) _
                refine XS.iload X103.here hx rfl (hb hby at_146) rfl ?_
                show Steps p.tables e below (T103.setTop (mkF m 148 #[.val (.int p1), .val (.int p2), .val (.int p3), .val (.int p4), .val (.int p5), .val (.ref b12), .val (.ref b25), .val (.ref b79), .val (.int (p5 &&& (3 : Int32))), .val (.int (((p5.toUInt32 >>> ((2 : Int32) &&& 31).toUInt32).toInt32) &&& (3 : Int32))), .val (.int (((p5.toUInt32 >>> ((4 : Int32) &&& 31).toUInt32).toInt32) &&& (3 : Int32))), .unset, .unset, .unset, .unset, .unset, .unset, .unset, .unset] [(.int p5)])) _
                refine XS.bipush X103.here hx rfl (hb hby at_148) ?_
                show Steps p.tables e below (T103.setTop (mkF m 150 #[.val (.int p1), .val (.int p2), .val (.int p3), .val (.int p4), .val (.int p5), .val (.ref b12), .val (.ref b25), .val (.ref b79), .val (.int (p5 &&& (3 : Int32))), .val (.int (((p5.toUInt32 >>> ((2 : Int32) &&& 31).toUInt32).toInt32) &&& (3 : Int32))), .val (.int (((p5.toUInt32 >>> ((4 : Int32) &&& 31).toUInt32).toInt32) &&& (3 : Int32))), .unset, .unset, .unset, .unset, .unset, .unset, .unset, .unset] [(.int (6 : Int32)), (.int p5)])) _
                refine XS.iushr X103.here hx rfl (hb hby at_150) rfl ?_
                show Steps p.tables e below (T103.setTop (mkF m 151 #[.val (.int p1), .val (.int p2), .val (.int p3), .val (.int p4), .val (.int p5), .val (.ref b12), .val (.ref b25), .val (.ref b79), .val (.int (p5 &&& (3 : Int32))), .val (.int (((p5.toUInt32 >>> ((2 : Int32) &&& 31).toUInt32).toInt32) &&& (3 : Int32))), .val (.int (((p5.toUInt32 >>> ((4 : Int32) &&& 31).toUInt32).toInt32) &&& (3 : Int32))), .unset, .unset, .unset, .unset, .unset, .unset, .unset, .unset] [(.int ((p5.toUInt32 >>> ((6 : Int32) &&& 31).toUInt32).toInt32))])) _
                refine XS.iconst X103.here hx rfl (hb hby at_151) ?_
                show Steps p.tables e below (T103.setTop (mkF m 152 #[.val (.int p1), .val (.int p2), .val (.int p3), .val (.int p4), .val (.int p5), .val (.ref b12), .val (.ref b25), .val (.ref b79), .val (.int (p5 &&& (3 : Int32))), .val (.int (((p5.toUInt32 >>> ((2 : Int32) &&& 31).toUInt32).toInt32) &&& (3 : Int32))), .val (.int (((p5.toUInt32 >>> ((4 : Int32) &&& 31).toUInt32).toInt32) &&& (3 : Int32))), .unset, .unset, .unset, .unset, .unset, .unset, .unset, .unset] [(.int (3 : Int32)), (.int ((p5.toUInt32 >>> ((6 : Int32) &&& 31).toUInt32).toInt32))])) _
                refine XS.iand X103.here hx rfl (hb hby at_152) rfl ?_
                show Steps p.tables e below (T103.setTop (mkF m 153 #[.val (.int p1), .val (.int p2), .val (.int p3), .val (.int p4), .val (.int p5), .val (.ref b12), .val (.ref b25), .val (.ref b79), .val (.int (p5 &&& (3 : Int32))), .val (.int (((p5.toUInt32 >>> ((2 : Int32) &&& 31).toUInt32).toInt32) &&& (3 : Int32))), .val (.int (((p5.toUInt32 >>> ((4 : Int32) &&& 31).toUInt32).toInt32) &&& (3 : Int32))), .unset, .unset, .unset, .unset, .unset, .unset, .unset, .unset] [(.int (((p5.toUInt32 >>> ((6 : Int32) &&& 31).toUInt32).toInt32) &&& (3 : Int32)))])) _
                refine XS.istore X103.here hx rfl (hb hby at_153) rfl (l' := #[.val (.int p1), .val (.int p2), .val (.int p3), .val (.int p4), .val (.int p5), .val (.ref b12), .val (.ref b25), .val (.ref b79), .val (.int (p5 &&& (3 : Int32))), .val (.int (((p5.toUInt32 >>> ((2 : Int32) &&& 31).toUInt32).toInt32) &&& (3 : Int32))), .val (.int (((p5.toUInt32 >>> ((4 : Int32) &&& 31).toUInt32).toInt32) &&& (3 : Int32))), .val (.int (((p5.toUInt32 >>> ((6 : Int32) &&& 31).toUInt32).toInt32) &&& (3 : Int32))), .unset, .unset, .unset, .unset, .unset, .unset, .unset]) rfl ?_
                show Steps p.tables e below (T103.setTop (mkF m 155 #[.val (.int p1), .val (.int p2), .val (.int p3), .val (.int p4), .val (.int p5), .val (.ref b12), .val (.ref b25), .val (.ref b79), .val (.int (p5 &&& (3 : Int32))), .val (.int (((p5.toUInt32 >>> ((2 : Int32) &&& 31).toUInt32).toInt32) &&& (3 : Int32))), .val (.int (((p5.toUInt32 >>> ((4 : Int32) &&& 31).toUInt32).toInt32) &&& (3 : Int32))), .val (.int (((p5.toUInt32 >>> ((6 : Int32) &&& 31).toUInt32).toInt32) &&& (3 : Int32))), .unset, .unset, .unset, .unset, .unset, .unset, .unset] [])) _
                refine XS.iload X103.here hx rfl (hb hby at_155) rfl ?_
                show Steps p.tables e below (T103.setTop (mkF m 157 #[.val (.int p1), .val (.int p2), .val (.int p3), .val (.int p4), .val (.int p5), .val (.ref b12), .val (.ref b25), .val (.ref b79), .val (.int (p5 &&& (3 : Int32))), .val (.int (((p5.toUInt32 >>> ((2 : Int32) &&& 31).toUInt32).toInt32) &&& (3 : Int32))), .val (.int (((p5.toUInt32 >>> ((4 : Int32) &&& 31).toUInt32).toInt32) &&& (3 : Int32))), .val (.int (((p5.toUInt32 >>> ((6 : Int32) &&& 31).toUInt32).toInt32) &&& (3 : Int32))), .unset, .unset, .unset, .unset, .unset, .unset, .unset] [(.int p5)])) _
                refine XS.bipush X103.here hx rfl (hb hby at_157) ?_
                show Steps p.tables e below (T103.setTop (mkF m 159 #[.val (.int p1), .val (.int p2), .val (.int p3), .val (.int p4), .val (.int p5), .val (.ref b12), .val (.ref b25), .val (.ref b79), .val (.int (p5 &&& (3 : Int32))), .val (.int (((p5.toUInt32 >>> ((2 : Int32) &&& 31).toUInt32).toInt32) &&& (3 : Int32))), .val (.int (((p5.toUInt32 >>> ((4 : Int32) &&& 31).toUInt32).toInt32) &&& (3 : Int32))), .val (.int (((p5.toUInt32 >>> ((6 : Int32) &&& 31).toUInt32).toInt32) &&& (3 : Int32))), .unset, .unset, .unset, .unset, .unset, .unset, .unset] [(.int (8 : Int32)), (.int p5)])) _
                refine XS.iushr X103.here hx rfl (hb hby at_159) rfl ?_
                show Steps p.tables e below (T103.setTop (mkF m 160 #[.val (.int p1), .val (.int p2), .val (.int p3), .val (.int p4), .val (.int p5), .val (.ref b12), .val (.ref b25), .val (.ref b79), .val (.int (p5 &&& (3 : Int32))), .val (.int (((p5.toUInt32 >>> ((2 : Int32) &&& 31).toUInt32).toInt32) &&& (3 : Int32))), .val (.int (((p5.toUInt32 >>> ((4 : Int32) &&& 31).toUInt32).toInt32) &&& (3 : Int32))), .val (.int (((p5.toUInt32 >>> ((6 : Int32) &&& 31).toUInt32).toInt32) &&& (3 : Int32))), .unset, .unset, .unset, .unset, .unset, .unset, .unset] [(.int ((p5.toUInt32 >>> ((8 : Int32) &&& 31).toUInt32).toInt32))])) _
                refine XS.iconst X103.here hx rfl (hb hby at_160) ?_
                show Steps p.tables e below (T103.setTop (mkF m 161 #[.val (.int p1), .val (.int p2), .val (.int p3), .val (.int p4), .val (.int p5), .val (.ref b12), .val (.ref b25), .val (.ref b79), .val (.int (p5 &&& (3 : Int32))), .val (.int (((p5.toUInt32 >>> ((2 : Int32) &&& 31).toUInt32).toInt32) &&& (3 : Int32))), .val (.int (((p5.toUInt32 >>> ((4 : Int32) &&& 31).toUInt32).toInt32) &&& (3 : Int32))), .val (.int (((p5.toUInt32 >>> ((6 : Int32) &&& 31).toUInt32).toInt32) &&& (3 : Int32))), .unset, .unset, .unset, .unset, .unset, .unset, .unset] [(.int (3 : Int32)), (.int ((p5.toUInt32 >>> ((8 : Int32) &&& 31).toUInt32).toInt32))])) _
                refine XS.iand X103.here hx rfl (hb hby at_161) rfl ?_
                show Steps p.tables e below (T103.setTop (mkF m 162 #[.val (.int p1), .val (.int p2), .val (.int p3), .val (.int p4), .val (.int p5), .val (.ref b12), .val (.ref b25), .val (.ref b79), .val (.int (p5 &&& (3 : Int32))), .val (.int (((p5.toUInt32 >>> ((2 : Int32) &&& 31).toUInt32).toInt32) &&& (3 : Int32))), .val (.int (((p5.toUInt32 >>> ((4 : Int32) &&& 31).toUInt32).toInt32) &&& (3 : Int32))), .val (.int (((p5.toUInt32 >>> ((6 : Int32) &&& 31).toUInt32).toInt32) &&& (3 : Int32))), .unset, .unset, .unset, .unset, .unset, .unset, .unset] [(.int (((p5.toUInt32 >>> ((8 : Int32) &&& 31).toUInt32).toInt32) &&& (3 : Int32)))])) _
                refine XS.istore X103.here hx rfl (hb hby at_162) rfl (l' := #[.val (.int p1), .val (.int p2), .val (.int p3), .val (.int p4), .val (.int p5), .val (.ref b12), .val (.ref b25), .val (.ref b79), .val (.int (p5 &&& (3 : Int32))), .val (.int (((p5.toUInt32 >>> ((2 : Int32) &&& 31).toUInt32).toInt32) &&& (3 : Int32))), .val (.int (((p5.toUInt32 >>> ((4 : Int32) &&& 31).toUInt32).toInt32) &&& (3 : Int32))), .val (.int (((p5.toUInt32 >>> ((6 : Int32) &&& 31).toUInt32).toInt32) &&& (3 : Int32))), .val (.int (((p5.toUInt32 >>> ((8 : Int32) &&& 31).toUInt32).toInt32) &&& (3 : Int32))), .unset, .unset, .unset, .unset, .unset, .unset]) rfl ?_
                show Steps p.tables e below (T103.setTop (mkF m 164 #[.val (.int p1), .val (.int p2), .val (.int p3), .val (.int p4), .val (.int p5), .val (.ref b12), .val (.ref b25), .val (.ref b79), .val (.int (p5 &&& (3 : Int32))), .val (.int (((p5.toUInt32 >>> ((2 : Int32) &&& 31).toUInt32).toInt32) &&& (3 : Int32))), .val (.int (((p5.toUInt32 >>> ((4 : Int32) &&& 31).toUInt32).toInt32) &&& (3 : Int32))), .val (.int (((p5.toUInt32 >>> ((6 : Int32) &&& 31).toUInt32).toInt32) &&& (3 : Int32))), .val (.int (((p5.toUInt32 >>> ((8 : Int32) &&& 31).toUInt32).toInt32) &&& (3 : Int32))), .unset, .unset, .unset, .unset, .unset, .unset] [])) _
                refine XS.iload X103.here hx rfl (hb hby at_164) rfl ?_
                show Steps p.tables e below (T103.setTop (mkF m 166 #[.val (.int p1), .val (.int p2), .val (.int p3), .val (.int p4), .val (.int p5), .val (.ref b12), .val (.ref b25), .val (.ref b79), .val (.int (p5 &&& (3 : Int32))), .val (.int (((p5.toUInt32 >>> ((2 : Int32) &&& 31).toUInt32).toInt32) &&& (3 : Int32))), .val (.int (((p5.toUInt32 >>> ((4 : Int32) &&& 31).toUInt32).toInt32) &&& (3 : Int32))), .val (.int (((p5.toUInt32 >>> ((6 : Int32) &&& 31).toUInt32).toInt32) &&& (3 : Int32))), .val (.int (((p5.toUInt32 >>> ((8 : Int32) &&& 31).toUInt32).toInt32) &&& (3 : Int32))), .unset, .unset, .unset, .unset, .unset, .unset] [(.int p5)])) _
                refine XS.bipush X103.here hx rfl (hb hby at_166) ?_
                show Steps p.tables e below (T103.setTop (mkF m 168 #[.val (.int p1), .val (.int p2), .val (.int p3), .val (.int p4), .val (.int p5), .val (.ref b12), .val (.ref b25), .val (.ref b79), .val (.int (p5 &&& (3 : Int32))), .val (.int (((p5.toUInt32 >>> ((2 : Int32) &&& 31).toUInt32).toInt32) &&& (3 : Int32))), .val (.int (((p5.toUInt32 >>> ((4 : Int32) &&& 31).toUInt32).toInt32) &&& (3 : Int32))), .val (.int (((p5.toUInt32 >>> ((6 : Int32) &&& 31).toUInt32).toInt32) &&& (3 : Int32))), .val (.int (((p5.toUInt32 >>> ((8 : Int32) &&& 31).toUInt32).toInt32) &&& (3 : Int32))), .unset, .unset, .unset, .unset, .unset, .unset] [(.int (10 : Int32)), (.int p5)])) _
                refine XS.iushr X103.here hx rfl (hb hby at_168) rfl ?_
                show Steps p.tables e below (T103.setTop (mkF m 169 #[.val (.int p1), .val (.int p2), .val (.int p3), .val (.int p4), .val (.int p5), .val (.ref b12), .val (.ref b25), .val (.ref b79), .val (.int (p5 &&& (3 : Int32))), .val (.int (((p5.toUInt32 >>> ((2 : Int32) &&& 31).toUInt32).toInt32) &&& (3 : Int32))), .val (.int (((p5.toUInt32 >>> ((4 : Int32) &&& 31).toUInt32).toInt32) &&& (3 : Int32))), .val (.int (((p5.toUInt32 >>> ((6 : Int32) &&& 31).toUInt32).toInt32) &&& (3 : Int32))), .val (.int (((p5.toUInt32 >>> ((8 : Int32) &&& 31).toUInt32).toInt32) &&& (3 : Int32))), .unset, .unset, .unset, .unset, .unset, .unset] [(.int ((p5.toUInt32 >>> ((10 : Int32) &&& 31).toUInt32).toInt32))])) _
                refine XS.iconst X103.here hx rfl (hb hby at_169) ?_
                show Steps p.tables e below (T103.setTop (mkF m 170 #[.val (.int p1), .val (.int p2), .val (.int p3), .val (.int p4), .val (.int p5), .val (.ref b12), .val (.ref b25), .val (.ref b79), .val (.int (p5 &&& (3 : Int32))), .val (.int (((p5.toUInt32 >>> ((2 : Int32) &&& 31).toUInt32).toInt32) &&& (3 : Int32))), .val (.int (((p5.toUInt32 >>> ((4 : Int32) &&& 31).toUInt32).toInt32) &&& (3 : Int32))), .val (.int (((p5.toUInt32 >>> ((6 : Int32) &&& 31).toUInt32).toInt32) &&& (3 : Int32))), .val (.int (((p5.toUInt32 >>> ((8 : Int32) &&& 31).toUInt32).toInt32) &&& (3 : Int32))), .unset, .unset, .unset, .unset, .unset, .unset] [(.int (3 : Int32)), (.int ((p5.toUInt32 >>> ((10 : Int32) &&& 31).toUInt32).toInt32))])) _
                refine XS.iand X103.here hx rfl (hb hby at_170) rfl ?_
                show Steps p.tables e below (T103.setTop (mkF m 171 #[.val (.int p1), .val (.int p2), .val (.int p3), .val (.int p4), .val (.int p5), .val (.ref b12), .val (.ref b25), .val (.ref b79), .val (.int (p5 &&& (3 : Int32))), .val (.int (((p5.toUInt32 >>> ((2 : Int32) &&& 31).toUInt32).toInt32) &&& (3 : Int32))), .val (.int (((p5.toUInt32 >>> ((4 : Int32) &&& 31).toUInt32).toInt32) &&& (3 : Int32))), .val (.int (((p5.toUInt32 >>> ((6 : Int32) &&& 31).toUInt32).toInt32) &&& (3 : Int32))), .val (.int (((p5.toUInt32 >>> ((8 : Int32) &&& 31).toUInt32).toInt32) &&& (3 : Int32))), .unset, .unset, .unset, .unset, .unset, .unset] [(.int (((p5.toUInt32 >>> ((10 : Int32) &&& 31).toUInt32).toInt32) &&& (3 : Int32)))])) _
                refine XS.istore X103.here hx rfl (hb hby at_171) rfl (l' := #[.val (.int p1), .val (.int p2), .val (.int p3), .val (.int p4), .val (.int p5), .val (.ref b12), .val (.ref b25), .val (.ref b79), .val (.int (p5 &&& (3 : Int32))), .val (.int (((p5.toUInt32 >>> ((2 : Int32) &&& 31).toUInt32).toInt32) &&& (3 : Int32))), .val (.int (((p5.toUInt32 >>> ((4 : Int32) &&& 31).toUInt32).toInt32) &&& (3 : Int32))), .val (.int (((p5.toUInt32 >>> ((6 : Int32) &&& 31).toUInt32).toInt32) &&& (3 : Int32))), .val (.int (((p5.toUInt32 >>> ((8 : Int32) &&& 31).toUInt32).toInt32) &&& (3 : Int32))), .val (.int (((p5.toUInt32 >>> ((10 : Int32) &&& 31).toUInt32).toInt32) &&& (3 : Int32))), .unset, .unset, .unset, .unset, .unset]) rfl ?_
                show Steps p.tables e below (T103.setTop (mkF m 173 #[.val (.int p1), .val (.int p2), .val (.int p3), .val (.int p4), .val (.int p5), .val (.ref b12), .val (.ref b25), .val (.ref b79), .val (.int (p5 &&& (3 : Int32))), .val (.int (((p5.toUInt32 >>> ((2 : Int32) &&& 31).toUInt32).toInt32) &&& (3 : Int32))), .val (.int (((p5.toUInt32 >>> ((4 : Int32) &&& 31).toUInt32).toInt32) &&& (3 : Int32))), .val (.int (((p5.toUInt32 >>> ((6 : Int32) &&& 31).toUInt32).toInt32) &&& (3 : Int32))), .val (.int (((p5.toUInt32 >>> ((8 : Int32) &&& 31).toUInt32).toInt32) &&& (3 : Int32))), .val (.int (((p5.toUInt32 >>> ((10 : Int32) &&& 31).toUInt32).toInt32) &&& (3 : Int32))), .unset, .unset, .unset, .unset, .unset] [])) _
                refine XS.iload X103.here hx rfl (hb hby at_173) rfl ?_
                show Steps p.tables e below (T103.setTop (mkF m 175 #[.val (.int p1), .val (.int p2), .val (.int p3), .val (.int p4), .val (.int p5), .val (.ref b12), .val (.ref b25), .val (.ref b79), .val (.int (p5 &&& (3 : Int32))), .val (.int (((p5.toUInt32 >>> ((2 : Int32) &&& 31).toUInt32).toInt32) &&& (3 : Int32))), .val (.int (((p5.toUInt32 >>> ((4 : Int32) &&& 31).toUInt32).toInt32) &&& (3 : Int32))), .val (.int (((p5.toUInt32 >>> ((6 : Int32) &&& 31).toUInt32).toInt32) &&& (3 : Int32))), .val (.int (((p5.toUInt32 >>> ((8 : Int32) &&& 31).toUInt32).toInt32) &&& (3 : Int32))), .val (.int (((p5.toUInt32 >>> ((10 : Int32) &&& 31).toUInt32).toInt32) &&& (3 : Int32))), .unset, .unset, .unset, .unset, .unset] [(.int p5)])) _
                refine XS.bipush X103.here hx rfl (hb hby at_175) ?_
                show Steps p.tables e below (T103.setTop (mkF m 177 #[.val (.int p1), .val (.int p2), .val (.int p3), .val (.int p4), .val (.int p5), .val (.ref b12), .val (.ref b25), .val (.ref b79), .val (.int (p5 &&& (3 : Int32))), .val (.int (((p5.toUInt32 >>> ((2 : Int32) &&& 31).toUInt32).toInt32) &&& (3 : Int32))), .val (.int (((p5.toUInt32 >>> ((4 : Int32) &&& 31).toUInt32).toInt32) &&& (3 : Int32))), .val (.int (((p5.toUInt32 >>> ((6 : Int32) &&& 31).toUInt32).toInt32) &&& (3 : Int32))), .val (.int (((p5.toUInt32 >>> ((8 : Int32) &&& 31).toUInt32).toInt32) &&& (3 : Int32))), .val (.int (((p5.toUInt32 >>> ((10 : Int32) &&& 31).toUInt32).toInt32) &&& (3 : Int32))), .unset, .unset, .unset, .unset, .unset] [(.int (12 : Int32)), (.int p5)])) _
                refine XS.iushr X103.here hx rfl (hb hby at_177) rfl ?_
                show Steps p.tables e below (T103.setTop (mkF m 178 #[.val (.int p1), .val (.int p2), .val (.int p3), .val (.int p4), .val (.int p5), .val (.ref b12), .val (.ref b25), .val (.ref b79), .val (.int (p5 &&& (3 : Int32))), .val (.int (((p5.toUInt32 >>> ((2 : Int32) &&& 31).toUInt32).toInt32) &&& (3 : Int32))), .val (.int (((p5.toUInt32 >>> ((4 : Int32) &&& 31).toUInt32).toInt32) &&& (3 : Int32))), .val (.int (((p5.toUInt32 >>> ((6 : Int32) &&& 31).toUInt32).toInt32) &&& (3 : Int32))), .val (.int (((p5.toUInt32 >>> ((8 : Int32) &&& 31).toUInt32).toInt32) &&& (3 : Int32))), .val (.int (((p5.toUInt32 >>> ((10 : Int32) &&& 31).toUInt32).toInt32) &&& (3 : Int32))), .unset, .unset, .unset, .unset, .unset] [(.int ((p5.toUInt32 >>> ((12 : Int32) &&& 31).toUInt32).toInt32))])) _
                refine XS.iconst X103.here hx rfl (hb hby at_178) ?_
                show Steps p.tables e below (T103.setTop (mkF m 179 #[.val (.int p1), .val (.int p2), .val (.int p3), .val (.int p4), .val (.int p5), .val (.ref b12), .val (.ref b25), .val (.ref b79), .val (.int (p5 &&& (3 : Int32))), .val (.int (((p5.toUInt32 >>> ((2 : Int32) &&& 31).toUInt32).toInt32) &&& (3 : Int32))), .val (.int (((p5.toUInt32 >>> ((4 : Int32) &&& 31).toUInt32).toInt32) &&& (3 : Int32))), .val (.int (((p5.toUInt32 >>> ((6 : Int32) &&& 31).toUInt32).toInt32) &&& (3 : Int32))), .val (.int (((p5.toUInt32 >>> ((8 : Int32) &&& 31).toUInt32).toInt32) &&& (3 : Int32))), .val (.int (((p5.toUInt32 >>> ((10 : Int32) &&& 31).toUInt32).toInt32) &&& (3 : Int32))), .unset, .unset, .unset, .unset, .unset] [(.int (3 : Int32)), (.int ((p5.toUInt32 >>> ((12 : Int32) &&& 31).toUInt32).toInt32))])) _
                refine XS.iand X103.here hx rfl (hb hby at_179) rfl ?_
                show Steps p.tables e below (T103.setTop (mkF m 180 #[.val (.int p1), .val (.int p2), .val (.int p3), .val (.int p4), .val (.int p5), .val (.ref b12), .val (.ref b25), .val (.ref b79), .val (.int (p5 &&& (3 : Int32))), .val (.int (((p5.toUInt32 >>> ((2 : Int32) &&& 31).toUInt32).toInt32) &&& (3 : Int32))), .val (.int (((p5.toUInt32 >>> ((4 : Int32) &&& 31).toUInt32).toInt32) &&& (3 : Int32))), .val (.int (((p5.toUInt32 >>> ((6 : Int32) &&& 31).toUInt32).toInt32) &&& (3 : Int32))), .val (.int (((p5.toUInt32 >>> ((8 : Int32) &&& 31).toUInt32).toInt32) &&& (3 : Int32))), .val (.int (((p5.toUInt32 >>> ((10 : Int32) &&& 31).toUInt32).toInt32) &&& (3 : Int32))), .unset, .unset, .unset, .unset, .unset] [(.int (((p5.toUInt32 >>> ((12 : Int32) &&& 31).toUInt32).toInt32) &&& (3 : Int32)))])) _
                refine XS.istore X103.here hx rfl (hb hby at_180) rfl (l' := #[.val (.int p1), .val (.int p2), .val (.int p3), .val (.int p4), .val (.int p5), .val (.ref b12), .val (.ref b25), .val (.ref b79), .val (.int (p5 &&& (3 : Int32))), .val (.int (((p5.toUInt32 >>> ((2 : Int32) &&& 31).toUInt32).toInt32) &&& (3 : Int32))), .val (.int (((p5.toUInt32 >>> ((4 : Int32) &&& 31).toUInt32).toInt32) &&& (3 : Int32))), .val (.int (((p5.toUInt32 >>> ((6 : Int32) &&& 31).toUInt32).toInt32) &&& (3 : Int32))), .val (.int (((p5.toUInt32 >>> ((8 : Int32) &&& 31).toUInt32).toInt32) &&& (3 : Int32))), .val (.int (((p5.toUInt32 >>> ((10 : Int32) &&& 31).toUInt32).toInt32) &&& (3 : Int32))), .val (.int (((p5.toUInt32 >>> ((12 : Int32) &&& 31).toUInt32).toInt32) &&& (3 : Int32))), .unset, .unset, .unset, .unset]) rfl ?_
                show Steps p.tables e below (T103.setTop (mkF m 182 #[.val (.int p1), .val (.int p2), .val (.int p3), .val (.int p4), .val (.int p5), .val (.ref b12), .val (.ref b25), .val (.ref b79), .val (.int (p5 &&& (3 : Int32))), .val (.int (((p5.toUInt32 >>> ((2 : Int32) &&& 31).toUInt32).toInt32) &&& (3 : Int32))), .val (.int (((p5.toUInt32 >>> ((4 : Int32) &&& 31).toUInt32).toInt32) &&& (3 : Int32))), .val (.int (((p5.toUInt32 >>> ((6 : Int32) &&& 31).toUInt32).toInt32) &&& (3 : Int32))), .val (.int (((p5.toUInt32 >>> ((8 : Int32) &&& 31).toUInt32).toInt32) &&& (3 : Int32))), .val (.int (((p5.toUInt32 >>> ((10 : Int32) &&& 31).toUInt32).toInt32) &&& (3 : Int32))), .val (.int (((p5.toUInt32 >>> ((12 : Int32) &&& 31).toUInt32).toInt32) &&& (3 : Int32))), .unset, .unset, .unset, .unset] [])) _
                rw [hi0]
                show Steps p.tables e below (T103.setTop (mkF m 182 #[.val (.int p1), .val (.int p2), .val (.int p3), .val (.int p4), .val (.int p5), .val (.ref b12), .val (.ref b25), .val (.ref b79), .val (.int (own_ix i0)), .val (.int (((p5.toUInt32 >>> ((2 : Int32) &&& 31).toUInt32).toInt32) &&& (3 : Int32))), .val (.int (((p5.toUInt32 >>> ((4 : Int32) &&& 31).toUInt32).toInt32) &&& (3 : Int32))), .val (.int (((p5.toUInt32 >>> ((6 : Int32) &&& 31).toUInt32).toInt32) &&& (3 : Int32))), .val (.int (((p5.toUInt32 >>> ((8 : Int32) &&& 31).toUInt32).toInt32) &&& (3 : Int32))), .val (.int (((p5.toUInt32 >>> ((10 : Int32) &&& 31).toUInt32).toInt32) &&& (3 : Int32))), .val (.int (((p5.toUInt32 >>> ((12 : Int32) &&& 31).toUInt32).toInt32) &&& (3 : Int32))), .unset, .unset, .unset, .unset] [])) _
                rw [hi1]
                show Steps p.tables e below (T103.setTop (mkF m 182 #[.val (.int p1), .val (.int p2), .val (.int p3), .val (.int p4), .val (.int p5), .val (.ref b12), .val (.ref b25), .val (.ref b79), .val (.int (own_ix i0)), .val (.int (own_ix i1)), .val (.int (((p5.toUInt32 >>> ((4 : Int32) &&& 31).toUInt32).toInt32) &&& (3 : Int32))), .val (.int (((p5.toUInt32 >>> ((6 : Int32) &&& 31).toUInt32).toInt32) &&& (3 : Int32))), .val (.int (((p5.toUInt32 >>> ((8 : Int32) &&& 31).toUInt32).toInt32) &&& (3 : Int32))), .val (.int (((p5.toUInt32 >>> ((10 : Int32) &&& 31).toUInt32).toInt32) &&& (3 : Int32))), .val (.int (((p5.toUInt32 >>> ((12 : Int32) &&& 31).toUInt32).toInt32) &&& (3 : Int32))), .unset, .unset, .unset, .unset] [])) _
                rw [hi2]
                show Steps p.tables e below (T103.setTop (mkF m 182 #[.val (.int p1), .val (.int p2), .val (.int p3), .val (.int p4), .val (.int p5), .val (.ref b12), .val (.ref b25), .val (.ref b79), .val (.int (own_ix i0)), .val (.int (own_ix i1)), .val (.int (own_ix i2)), .val (.int (((p5.toUInt32 >>> ((6 : Int32) &&& 31).toUInt32).toInt32) &&& (3 : Int32))), .val (.int (((p5.toUInt32 >>> ((8 : Int32) &&& 31).toUInt32).toInt32) &&& (3 : Int32))), .val (.int (((p5.toUInt32 >>> ((10 : Int32) &&& 31).toUInt32).toInt32) &&& (3 : Int32))), .val (.int (((p5.toUInt32 >>> ((12 : Int32) &&& 31).toUInt32).toInt32) &&& (3 : Int32))), .unset, .unset, .unset, .unset] [])) _
                rw [hi3]
                show Steps p.tables e below (T103.setTop (mkF m 182 #[.val (.int p1), .val (.int p2), .val (.int p3), .val (.int p4), .val (.int p5), .val (.ref b12), .val (.ref b25), .val (.ref b79), .val (.int (own_ix i0)), .val (.int (own_ix i1)), .val (.int (own_ix i2)), .val (.int (own_ix i3)), .val (.int (((p5.toUInt32 >>> ((8 : Int32) &&& 31).toUInt32).toInt32) &&& (3 : Int32))), .val (.int (((p5.toUInt32 >>> ((10 : Int32) &&& 31).toUInt32).toInt32) &&& (3 : Int32))), .val (.int (((p5.toUInt32 >>> ((12 : Int32) &&& 31).toUInt32).toInt32) &&& (3 : Int32))), .unset, .unset, .unset, .unset] [])) _
                rw [hi4]
                show Steps p.tables e below (T103.setTop (mkF m 182 #[.val (.int p1), .val (.int p2), .val (.int p3), .val (.int p4), .val (.int p5), .val (.ref b12), .val (.ref b25), .val (.ref b79), .val (.int (own_ix i0)), .val (.int (own_ix i1)), .val (.int (own_ix i2)), .val (.int (own_ix i3)), .val (.int (own_ix i4)), .val (.int (((p5.toUInt32 >>> ((10 : Int32) &&& 31).toUInt32).toInt32) &&& (3 : Int32))), .val (.int (((p5.toUInt32 >>> ((12 : Int32) &&& 31).toUInt32).toInt32) &&& (3 : Int32))), .unset, .unset, .unset, .unset] [])) _
                rw [hi5]
                show Steps p.tables e below (T103.setTop (mkF m 182 #[.val (.int p1), .val (.int p2), .val (.int p3), .val (.int p4), .val (.int p5), .val (.ref b12), .val (.ref b25), .val (.ref b79), .val (.int (own_ix i0)), .val (.int (own_ix i1)), .val (.int (own_ix i2)), .val (.int (own_ix i3)), .val (.int (own_ix i4)), .val (.int (own_ix i5)), .val (.int (((p5.toUInt32 >>> ((12 : Int32) &&& 31).toUInt32).toInt32) &&& (3 : Int32))), .unset, .unset, .unset, .unset] [])) _
                rw [← h_nn]
                exact kt)
              obtain ⟨t, ord, F, inj, g0, injO, Vt, Vo, net, neg, neo⟩ : ∃ (t : Fin 4 → Addr) (ord : Fin 4 → Int32), own_For Z h103 t ord (fun i => i) ∧ (∀ i j, t i = t j → i = j) ∧ (∀ i, n0 ≤ t i) ∧ (∀ k l, ord k = ord l → k = l) ∧ Arv Z h103 b25 k25 (.object "com/example/pentad/pentad/tx/TempId") (4 : Int32) [.ref (t 0), .ref (t 1), .ref (t 2), .ref (t 3)] .null ∧ Arv Z h103 b12 k12 .int (4 : Int32) [.int (ord 0), .int (ord 1), .int (ord 2), .int (ord 3)] (.int (0 : Int32)) ∧ (∀ i, b25 ≠ t i) ∧ (∀ i, b79 ≠ t i) ∧ (∀ i, b12 ≠ t i) :=
                ⟨(own_f4 b28 b37 b49 b63), (own_f4 p1 p2 p3 p4), ⟨own_all4 f106 f107 f108 f109, own_all4 f110 f111 f112 f113, own_all4 f114 f115 f116 f117⟩, own_inj4 ne43 ne55 ne69 ne57 ne71 ne73, own_all4 g_b28 g_b37 g_b49 g_b63, own_inj4 he0 he1 he2 he3 he4 he5, f105, f104, own_all4 ne31 ne41 ne53 ne67, own_all4 (Ne.symm ne85) (Ne.symm ne87) (Ne.symm ne89) (Ne.symm ne91), own_all4 ne30 ne39 ne51 ne65⟩
              have Vg : Arv Z h103 b79 k79 .int (4 : Int32) [.int ((own_f4 (0 : Int32) 1 2 3) 0), .int ((own_f4 (0 : Int32) 1 2 3) 1), .int ((own_f4 (0 : Int32) 1 2 3) 2), .int ((own_f4 (0 : Int32) 1 2 3) 3)] (.int (0 : Int32)) := Vw103
              have netg : b25 ≠ b79 := ne83
              have neog : b12 ≠ b79 := ne81
              rcases hnn with hk | hk | hk | hk
              · obtain ⟨Tf0, Lf0, parf0, Xf0, Nf0, Of0, Ff0, If0, Vtf0, Vgf0, Vof0, stf0⟩ := own_fin_0 hw t ord (fun i => i) (fun i => i) (own_f4 (0 : Int32) 1 2 3) i0 i1 i2 i3 i4 i5 p1 p2 p3 p4 p5 (0 : Int32) X103 hx hZ hby hml hown e103 O103 N103 F ⟨fun _ => rfl, fun _ => rfl, fun _ q => q, fun _ => Or.inl rfl, fun _ => Or.inl rfl⟩ inj g0 injO own_cls0 Vt Vg Vo net neg neo netg neog g_b79 (by decide) (by decide) (by decide) (by decide)
                obtain ⟨Tf1, Lf1, parf1, Xf1, Nf1, Of1, Ff1, If1, Vtf1, Vgf1, Vof1, stf1⟩ := own_fin_1 hw t ord parf0 (fun i => i) (own_f4 (0 : Int32) 1 2 3) i0 i1 i2 i3 i4 i5 p1 p2 p3 p4 p5 (0 : Int32) Xf0 hx hZ hby hml hown rfl Of0 Nf0 Ff0 If0 inj g0 injO own_cls0 Vtf0 Vgf0 Vof0 net neg neo netg neog g_b79 (by decide) (by decide) (by decide) (by decide)
                obtain ⟨Tf2, Lf2, parf2, Xf2, Nf2, Of2, Ff2, If2, Vtf2, Vgf2, Vof2, stf2⟩ := own_fin_2 hw t ord parf1 (fun i => i) (own_f4 (0 : Int32) 1 2 3) i0 i1 i2 i3 i4 i5 p1 p2 p3 p4 p5 (0 : Int32) Xf1 hx hZ hby hml hown rfl Of1 Nf1 Ff1 If1 inj g0 injO own_cls0 Vtf1 Vgf1 Vof1 net neg neo netg neog g_b79 (by decide) (by decide) (by decide) (by decide)
                obtain ⟨Tf3, Lf3, parf3, Xf3, Nf3, Of3, Ff3, If3, Vtf3, Vgf3, Vof3, stf3⟩ := own_fin_3 hw t ord parf2 (fun i => i) (own_f4 (0 : Int32) 1 2 3) i0 i1 i2 i3 i4 i5 p1 p2 p3 p4 p5 (0 : Int32) Xf2 hx hZ hby hml hown rfl Of2 Nf2 Ff2 If2 inj g0 injO own_cls0 Vtf2 Vgf2 Vof2 net neg neo netg neog g_b79 (by decide) (by decide) (by decide) (by decide)
                obtain ⟨fs, hr, hrun, hended, hW, hsame⟩ := Xf3.leave (v := some (.int (1 : Int32))) (fun h => by rw [Bd.returns] at h; cases h)
                refine ⟨_, _, pre118 _ ?_, hrun, hended, _, _, rfl, ?_, ⟨_, rfl⟩, hW, hsame.mono (by decide) (by decide)⟩
                · show Steps p.tables e below (T103.setTop (mkF m 182 #[.val (.int p1), .val (.int p2), .val (.int p3), .val (.int p4), .val (.int p5), .val (.ref b12), .val (.ref b25), .val (.ref b79), .val (.int (own_ix i0)), .val (.int (own_ix i1)), .val (.int (own_ix i2)), .val (.int (own_ix i3)), .val (.int (own_ix i4)), .val (.int (own_ix i5)), .val (.int nn), .unset, .unset, .unset, .unset] [])) _
                  rw [hk]
                  show Steps p.tables e below (T103.setTop (mkF m 182 #[.val (.int p1), .val (.int p2), .val (.int p3), .val (.int p4), .val (.int p5), .val (.ref b12), .val (.ref b25), .val (.ref b79), .val (.int (own_ix i0)), .val (.int (own_ix i1)), .val (.int (own_ix i2)), .val (.int (own_ix i3)), .val (.int (own_ix i4)), .val (.int (own_ix i5)), .val (.int (0 : Int32)), .unset, .unset, .unset, .unset] [])) _
                  refine XS.iload X103.here hx rfl (hb hby at_182) rfl ?_
                  show Steps p.tables e below (T103.setTop (mkF m 184 #[.val (.int p1), .val (.int p2), .val (.int p3), .val (.int p4), .val (.int p5), .val (.ref b12), .val (.ref b25), .val (.ref b79), .val (.int (own_ix i0)), .val (.int (own_ix i1)), .val (.int (own_ix i2)), .val (.int (own_ix i3)), .val (.int (own_ix i4)), .val (.int (own_ix i5)), .val (.int (0 : Int32)), .unset, .unset, .unset, .unset] [(.int (0 : Int32))])) _
                  refine XS.iconst X103.here hx rfl (hb hby at_184) ?_
                  show Steps p.tables e below (T103.setTop (mkF m 185 #[.val (.int p1), .val (.int p2), .val (.int p3), .val (.int p4), .val (.int p5), .val (.ref b12), .val (.ref b25), .val (.ref b79), .val (.int (own_ix i0)), .val (.int (own_ix i1)), .val (.int (own_ix i2)), .val (.int (own_ix i3)), .val (.int (own_ix i4)), .val (.int (own_ix i5)), .val (.int (0 : Int32)), .unset, .unset, .unset, .unset] [(.int (1 : Int32)), (.int (0 : Int32))])) _
                  refine XS.icmpYes X103.here hx rfl (pc0 := 185) (pc' := 210) rfl (hb hby at_185) rfl (tlt ((by decide) : (0 : Int32) < (1 : Int32))).1 (by decide) (by decide) ?_
                  show Steps p.tables e below (T103.setTop (mkF m 210 #[.val (.int p1), .val (.int p2), .val (.int p3), .val (.int p4), .val (.int p5), .val (.ref b12), .val (.ref b25), .val (.ref b79), .val (.int (own_ix i0)), .val (.int (own_ix i1)), .val (.int (own_ix i2)), .val (.int (own_ix i3)), .val (.int (own_ix i4)), .val (.int (own_ix i5)), .val (.int (0 : Int32)), .unset, .unset, .unset, .unset] [])) _
                  refine XS.iload X103.here hx rfl (hb hby at_210) rfl ?_
                  show Steps p.tables e below (T103.setTop (mkF m 212 #[.val (.int p1), .val (.int p2), .val (.int p3), .val (.int p4), .val (.int p5), .val (.ref b12), .val (.ref b25), .val (.ref b79), .val (.int (own_ix i0)), .val (.int (own_ix i1)), .val (.int (own_ix i2)), .val (.int (own_ix i3)), .val (.int (own_ix i4)), .val (.int (own_ix i5)), .val (.int (0 : Int32)), .unset, .unset, .unset, .unset] [(.int (0 : Int32))])) _
                  refine XS.iconst X103.here hx rfl (hb hby at_212) ?_
                  show Steps p.tables e below (T103.setTop (mkF m 213 #[.val (.int p1), .val (.int p2), .val (.int p3), .val (.int p4), .val (.int p5), .val (.ref b12), .val (.ref b25), .val (.ref b79), .val (.int (own_ix i0)), .val (.int (own_ix i1)), .val (.int (own_ix i2)), .val (.int (own_ix i3)), .val (.int (own_ix i4)), .val (.int (own_ix i5)), .val (.int (0 : Int32)), .unset, .unset, .unset, .unset] [(.int (2 : Int32)), (.int (0 : Int32))])) _
                  refine XS.icmpYes X103.here hx rfl (pc0 := 213) (pc' := 238) rfl (hb hby at_213) rfl (tlt ((by decide) : (0 : Int32) < (2 : Int32))).1 (by decide) (by decide) ?_
                  show Steps p.tables e below (T103.setTop (mkF m 238 #[.val (.int p1), .val (.int p2), .val (.int p3), .val (.int p4), .val (.int p5), .val (.ref b12), .val (.ref b25), .val (.ref b79), .val (.int (own_ix i0)), .val (.int (own_ix i1)), .val (.int (own_ix i2)), .val (.int (own_ix i3)), .val (.int (own_ix i4)), .val (.int (own_ix i5)), .val (.int (0 : Int32)), .unset, .unset, .unset, .unset] [])) _
                  refine XS.iload X103.here hx rfl (hb hby at_238) rfl ?_
                  show Steps p.tables e below (T103.setTop (mkF m 240 #[.val (.int p1), .val (.int p2), .val (.int p3), .val (.int p4), .val (.int p5), .val (.ref b12), .val (.ref b25), .val (.ref b79), .val (.int (own_ix i0)), .val (.int (own_ix i1)), .val (.int (own_ix i2)), .val (.int (own_ix i3)), .val (.int (own_ix i4)), .val (.int (own_ix i5)), .val (.int (0 : Int32)), .unset, .unset, .unset, .unset] [(.int (0 : Int32))])) _
                  refine XS.iconst X103.here hx rfl (hb hby at_240) ?_
                  show Steps p.tables e below (T103.setTop (mkF m 241 #[.val (.int p1), .val (.int p2), .val (.int p3), .val (.int p4), .val (.int p5), .val (.ref b12), .val (.ref b25), .val (.ref b79), .val (.int (own_ix i0)), .val (.int (own_ix i1)), .val (.int (own_ix i2)), .val (.int (own_ix i3)), .val (.int (own_ix i4)), .val (.int (own_ix i5)), .val (.int (0 : Int32)), .unset, .unset, .unset, .unset] [(.int (3 : Int32)), (.int (0 : Int32))])) _
                  refine XS.icmpYes X103.here hx rfl (pc0 := 241) (pc' := 266) rfl (hb hby at_241) rfl (tlt ((by decide) : (0 : Int32) < (3 : Int32))).1 (by decide) (by decide) ?_
                  show Steps p.tables e below (T103.setTop (mkF m 266 #[.val (.int p1), .val (.int p2), .val (.int p3), .val (.int p4), .val (.int p5), .val (.ref b12), .val (.ref b25), .val (.ref b79), .val (.int (own_ix i0)), .val (.int (own_ix i1)), .val (.int (own_ix i2)), .val (.int (own_ix i3)), .val (.int (own_ix i4)), .val (.int (own_ix i5)), .val (.int (0 : Int32)), .unset, .unset, .unset, .unset] [])) _
                  refine stf0 _ ?_
                  show Steps p.tables e below (Tf0.setTop (mkF m 294 #[.val (.int p1), .val (.int p2), .val (.int p3), .val (.int p4), .val (.int p5), .val (.ref b12), .val (.ref b25), .val (.ref b79), .val (.int (own_ix i0)), .val (.int (own_ix i1)), .val (.int (own_ix i2)), .val (.int (own_ix i3)), .val (.int (own_ix i4)), .val (.int (own_ix i5)), .val (.int (0 : Int32)), .val (.int (1 : Int32)), .unset, .unset, .unset] [])) _
                  refine stf1 _ ?_
                  show Steps p.tables e below (Tf1.setTop (mkF m 322 #[.val (.int p1), .val (.int p2), .val (.int p3), .val (.int p4), .val (.int p5), .val (.ref b12), .val (.ref b25), .val (.ref b79), .val (.int (own_ix i0)), .val (.int (own_ix i1)), .val (.int (own_ix i2)), .val (.int (own_ix i3)), .val (.int (own_ix i4)), .val (.int (own_ix i5)), .val (.int (0 : Int32)), .val (.int (1 : Int32)), .val (.int (1 : Int32)), .unset, .unset] [])) _
                  refine stf2 _ ?_
                  show Steps p.tables e below (Tf2.setTop (mkF m 350 #[.val (.int p1), .val (.int p2), .val (.int p3), .val (.int p4), .val (.int p5), .val (.ref b12), .val (.ref b25), .val (.ref b79), .val (.int (own_ix i0)), .val (.int (own_ix i1)), .val (.int (own_ix i2)), .val (.int (own_ix i3)), .val (.int (own_ix i4)), .val (.int (own_ix i5)), .val (.int (0 : Int32)), .val (.int (1 : Int32)), .val (.int (1 : Int32)), .val (.int (1 : Int32)), .unset] [])) _
                  refine stf3 _ ?_
                  show Steps p.tables e below (Tf3.setTop (mkF m 378 #[.val (.int p1), .val (.int p2), .val (.int p3), .val (.int p4), .val (.int p5), .val (.ref b12), .val (.ref b25), .val (.ref b79), .val (.int (own_ix i0)), .val (.int (own_ix i1)), .val (.int (own_ix i2)), .val (.int (own_ix i3)), .val (.int (own_ix i4)), .val (.int (own_ix i5)), .val (.int (0 : Int32)), .val (.int (1 : Int32)), .val (.int (1 : Int32)), .val (.int (1 : Int32)), .val (.int (1 : Int32))] [])) _
                  refine XS.iload Xf3.here hx rfl (hb hby at_378) rfl ?_
                  show Steps p.tables e below (Tf3.setTop (mkF m 380 #[.val (.int p1), .val (.int p2), .val (.int p3), .val (.int p4), .val (.int p5), .val (.ref b12), .val (.ref b25), .val (.ref b79), .val (.int (own_ix i0)), .val (.int (own_ix i1)), .val (.int (own_ix i2)), .val (.int (own_ix i3)), .val (.int (own_ix i4)), .val (.int (own_ix i5)), .val (.int (0 : Int32)), .val (.int (1 : Int32)), .val (.int (1 : Int32)), .val (.int (1 : Int32)), .val (.int (1 : Int32))] [(.int (1 : Int32))])) _
                  refine XS.ifNo Xf3.here hx rfl (hb hby at_380) rfl ((if0 _ _).trans (feq ((by decide) : ¬ ((1 : Int32) = (0 : Int32)))).1) ?_
                  show Steps p.tables e below (Tf3.setTop (mkF m 383 #[.val (.int p1), .val (.int p2), .val (.int p3), .val (.int p4), .val (.int p5), .val (.ref b12), .val (.ref b25), .val (.ref b79), .val (.int (own_ix i0)), .val (.int (own_ix i1)), .val (.int (own_ix i2)), .val (.int (own_ix i3)), .val (.int (own_ix i4)), .val (.int (own_ix i5)), .val (.int (0 : Int32)), .val (.int (1 : Int32)), .val (.int (1 : Int32)), .val (.int (1 : Int32)), .val (.int (1 : Int32))] [])) _
                  refine XS.iload Xf3.here hx rfl (hb hby at_383) rfl ?_
                  show Steps p.tables e below (Tf3.setTop (mkF m 385 #[.val (.int p1), .val (.int p2), .val (.int p3), .val (.int p4), .val (.int p5), .val (.ref b12), .val (.ref b25), .val (.ref b79), .val (.int (own_ix i0)), .val (.int (own_ix i1)), .val (.int (own_ix i2)), .val (.int (own_ix i3)), .val (.int (own_ix i4)), .val (.int (own_ix i5)), .val (.int (0 : Int32)), .val (.int (1 : Int32)), .val (.int (1 : Int32)), .val (.int (1 : Int32)), .val (.int (1 : Int32))] [(.int (1 : Int32))])) _
                  refine XS.ifNo Xf3.here hx rfl (hb hby at_385) rfl ((if0 _ _).trans (feq ((by decide) : ¬ ((1 : Int32) = (0 : Int32)))).1) ?_
                  show Steps p.tables e below (Tf3.setTop (mkF m 388 #[.val (.int p1), .val (.int p2), .val (.int p3), .val (.int p4), .val (.int p5), .val (.ref b12), .val (.ref b25), .val (.ref b79), .val (.int (own_ix i0)), .val (.int (own_ix i1)), .val (.int (own_ix i2)), .val (.int (own_ix i3)), .val (.int (own_ix i4)), .val (.int (own_ix i5)), .val (.int (0 : Int32)), .val (.int (1 : Int32)), .val (.int (1 : Int32)), .val (.int (1 : Int32)), .val (.int (1 : Int32))] [])) _
                  refine XS.iload Xf3.here hx rfl (hb hby at_388) rfl ?_
                  show Steps p.tables e below (Tf3.setTop (mkF m 390 #[.val (.int p1), .val (.int p2), .val (.int p3), .val (.int p4), .val (.int p5), .val (.ref b12), .val (.ref b25), .val (.ref b79), .val (.int (own_ix i0)), .val (.int (own_ix i1)), .val (.int (own_ix i2)), .val (.int (own_ix i3)), .val (.int (own_ix i4)), .val (.int (own_ix i5)), .val (.int (0 : Int32)), .val (.int (1 : Int32)), .val (.int (1 : Int32)), .val (.int (1 : Int32)), .val (.int (1 : Int32))] [(.int (1 : Int32))])) _
                  refine XS.ifNo Xf3.here hx rfl (hb hby at_390) rfl ((if0 _ _).trans (feq ((by decide) : ¬ ((1 : Int32) = (0 : Int32)))).1) ?_
                  show Steps p.tables e below (Tf3.setTop (mkF m 393 #[.val (.int p1), .val (.int p2), .val (.int p3), .val (.int p4), .val (.int p5), .val (.ref b12), .val (.ref b25), .val (.ref b79), .val (.int (own_ix i0)), .val (.int (own_ix i1)), .val (.int (own_ix i2)), .val (.int (own_ix i3)), .val (.int (own_ix i4)), .val (.int (own_ix i5)), .val (.int (0 : Int32)), .val (.int (1 : Int32)), .val (.int (1 : Int32)), .val (.int (1 : Int32)), .val (.int (1 : Int32))] [])) _
                  refine XS.iload Xf3.here hx rfl (hb hby at_393) rfl ?_
                  show Steps p.tables e below (Tf3.setTop (mkF m 395 #[.val (.int p1), .val (.int p2), .val (.int p3), .val (.int p4), .val (.int p5), .val (.ref b12), .val (.ref b25), .val (.ref b79), .val (.int (own_ix i0)), .val (.int (own_ix i1)), .val (.int (own_ix i2)), .val (.int (own_ix i3)), .val (.int (own_ix i4)), .val (.int (own_ix i5)), .val (.int (0 : Int32)), .val (.int (1 : Int32)), .val (.int (1 : Int32)), .val (.int (1 : Int32)), .val (.int (1 : Int32))] [(.int (1 : Int32))])) _
                  refine XS.ifNo Xf3.here hx rfl (hb hby at_395) rfl ((if0 _ _).trans (feq ((by decide) : ¬ ((1 : Int32) = (0 : Int32)))).1) ?_
                  show Steps p.tables e below (Tf3.setTop (mkF m 398 #[.val (.int p1), .val (.int p2), .val (.int p3), .val (.int p4), .val (.int p5), .val (.ref b12), .val (.ref b25), .val (.ref b79), .val (.int (own_ix i0)), .val (.int (own_ix i1)), .val (.int (own_ix i2)), .val (.int (own_ix i3)), .val (.int (own_ix i4)), .val (.int (own_ix i5)), .val (.int (0 : Int32)), .val (.int (1 : Int32)), .val (.int (1 : Int32)), .val (.int (1 : Int32)), .val (.int (1 : Int32))] [])) _
                  refine XS.iconst Xf3.here hx rfl (hb hby at_398) ?_
                  show Steps p.tables e below (Tf3.setTop (mkF m 399 #[.val (.int p1), .val (.int p2), .val (.int p3), .val (.int p4), .val (.int p5), .val (.ref b12), .val (.ref b25), .val (.ref b79), .val (.int (own_ix i0)), .val (.int (own_ix i1)), .val (.int (own_ix i2)), .val (.int (own_ix i3)), .val (.int (own_ix i4)), .val (.int (own_ix i5)), .val (.int (0 : Int32)), .val (.int (1 : Int32)), .val (.int (1 : Int32)), .val (.int (1 : Int32)), .val (.int (1 : Int32))] [(.int (1 : Int32))])) _
                  refine XS.goto Xf3.here hx rfl (pc0 := 399) (pc' := 403) rfl (hb hby at_399) (by decide) (by decide) ?_
                  show Steps p.tables e below (Tf3.setTop (mkF m 403 #[.val (.int p1), .val (.int p2), .val (.int p3), .val (.int p4), .val (.int p5), .val (.ref b12), .val (.ref b25), .val (.ref b79), .val (.int (own_ix i0)), .val (.int (own_ix i1)), .val (.int (own_ix i2)), .val (.int (own_ix i3)), .val (.int (own_ix i4)), .val (.int (own_ix i5)), .val (.int (0 : Int32)), .val (.int (1 : Int32)), .val (.int (1 : Int32)), .val (.int (1 : Int32)), .val (.int (1 : Int32))] [(.int (1 : Int32))])) _
                  exact retN Xf3 hx (t := .boolean) Bd.returns (by simp) (hb hby at_403) hr
                · show Qrm0 Z p1 p2 p3 p4 p5 h0 n0 _ Tf3.heap _
                  exact ⟨rfl, Nf3⟩
              · obtain ⟨Tb0, Lb0, parb0, rtb0, Xb0, Nb0, Ob0, Fb0, Ib0, Hb0, Vtb0, Vgb0, Vob0, stb0⟩ := own_blk0 hw t ord (fun i => i) (fun i => i) (own_f4 (0 : Int32) 1 2 3) i0 i1 i2 i3 i4 i5 p1 p2 p3 p4 p5 (1 : Int32) X103 hx hZ hby hml hown e103 O103 N103 F ⟨fun _ => rfl, fun _ => rfl, fun _ q => q, fun _ => Or.inl rfl, fun _ => Or.inl rfl⟩ inj g0 injO own_cls0 Vt Vg Vo net neg neo netg neog g_b79 (by decide) (by decide) (by decide) (by decide)
                obtain ⟨Tf0, Lf0, parf0, Xf0, Nf0, Of0, Ff0, If0, Vtf0, Vgf0, Vof0, stf0⟩ := own_fin_0 hw t ord parb0 rtb0 (own_jn (own_f4 (0 : Int32) 1 2 3) i0 i1) i0 i1 i2 i3 i4 i5 p1 p2 p3 p4 p5 (1 : Int32) Xb0 hx hZ hby hml hown rfl Ob0 Nb0 Fb0 Ib0 inj g0 injO Hb0 Vtb0 Vgb0 Vob0 net neg neo netg neog g_b79 (by decide) (by decide) (by decide) (by decide)
                obtain ⟨Tf1, Lf1, parf1, Xf1, Nf1, Of1, Ff1, If1, Vtf1, Vgf1, Vof1, stf1⟩ := own_fin_1 hw t ord parf0 rtb0 (own_jn (own_f4 (0 : Int32) 1 2 3) i0 i1) i0 i1 i2 i3 i4 i5 p1 p2 p3 p4 p5 (1 : Int32) Xf0 hx hZ hby hml hown rfl Of0 Nf0 Ff0 If0 inj g0 injO Hb0 Vtf0 Vgf0 Vof0 net neg neo netg neog g_b79 (by decide) (by decide) (by decide) (by decide)
                obtain ⟨Tf2, Lf2, parf2, Xf2, Nf2, Of2, Ff2, If2, Vtf2, Vgf2, Vof2, stf2⟩ := own_fin_2 hw t ord parf1 rtb0 (own_jn (own_f4 (0 : Int32) 1 2 3) i0 i1) i0 i1 i2 i3 i4 i5 p1 p2 p3 p4 p5 (1 : Int32) Xf1 hx hZ hby hml hown rfl Of1 Nf1 Ff1 If1 inj g0 injO Hb0 Vtf1 Vgf1 Vof1 net neg neo netg neog g_b79 (by decide) (by decide) (by decide) (by decide)
                obtain ⟨Tf3, Lf3, parf3, Xf3, Nf3, Of3, Ff3, If3, Vtf3, Vgf3, Vof3, stf3⟩ := own_fin_3 hw t ord parf2 rtb0 (own_jn (own_f4 (0 : Int32) 1 2 3) i0 i1) i0 i1 i2 i3 i4 i5 p1 p2 p3 p4 p5 (1 : Int32) Xf2 hx hZ hby hml hown rfl Of2 Nf2 Ff2 If2 inj g0 injO Hb0 Vtf2 Vgf2 Vof2 net neg neo netg neog g_b79 (by decide) (by decide) (by decide) (by decide)
                obtain ⟨fs, hr, hrun, hended, hW, hsame⟩ := Xf3.leave (v := some (.int (1 : Int32))) (fun h => by rw [Bd.returns] at h; cases h)
                refine ⟨_, _, pre118 _ ?_, hrun, hended, _, _, rfl, ?_, ⟨_, rfl⟩, hW, hsame.mono (by decide) (by decide)⟩
                · show Steps p.tables e below (T103.setTop (mkF m 182 #[.val (.int p1), .val (.int p2), .val (.int p3), .val (.int p4), .val (.int p5), .val (.ref b12), .val (.ref b25), .val (.ref b79), .val (.int (own_ix i0)), .val (.int (own_ix i1)), .val (.int (own_ix i2)), .val (.int (own_ix i3)), .val (.int (own_ix i4)), .val (.int (own_ix i5)), .val (.int nn), .unset, .unset, .unset, .unset] [])) _
                  rw [hk]
                  show Steps p.tables e below (T103.setTop (mkF m 182 #[.val (.int p1), .val (.int p2), .val (.int p3), .val (.int p4), .val (.int p5), .val (.ref b12), .val (.ref b25), .val (.ref b79), .val (.int (own_ix i0)), .val (.int (own_ix i1)), .val (.int (own_ix i2)), .val (.int (own_ix i3)), .val (.int (own_ix i4)), .val (.int (own_ix i5)), .val (.int (1 : Int32)), .unset, .unset, .unset, .unset] [])) _
                  refine XS.iload X103.here hx rfl (hb hby at_182) rfl ?_
                  show Steps p.tables e below (T103.setTop (mkF m 184 #[.val (.int p1), .val (.int p2), .val (.int p3), .val (.int p4), .val (.int p5), .val (.ref b12), .val (.ref b25), .val (.ref b79), .val (.int (own_ix i0)), .val (.int (own_ix i1)), .val (.int (own_ix i2)), .val (.int (own_ix i3)), .val (.int (own_ix i4)), .val (.int (own_ix i5)), .val (.int (1 : Int32)), .unset, .unset, .unset, .unset] [(.int (1 : Int32))])) _
                  refine XS.iconst X103.here hx rfl (hb hby at_184) ?_
                  show Steps p.tables e below (T103.setTop (mkF m 185 #[.val (.int p1), .val (.int p2), .val (.int p3), .val (.int p4), .val (.int p5), .val (.ref b12), .val (.ref b25), .val (.ref b79), .val (.int (own_ix i0)), .val (.int (own_ix i1)), .val (.int (own_ix i2)), .val (.int (own_ix i3)), .val (.int (own_ix i4)), .val (.int (own_ix i5)), .val (.int (1 : Int32)), .unset, .unset, .unset, .unset] [(.int (1 : Int32)), (.int (1 : Int32))])) _
                  refine XS.icmpNo X103.here hx rfl (hb hby at_185) rfl (flt ((by decide) : ¬ ((1 : Int32) < (1 : Int32)))).1 ?_
                  show Steps p.tables e below (T103.setTop (mkF m 188 #[.val (.int p1), .val (.int p2), .val (.int p3), .val (.int p4), .val (.int p5), .val (.ref b12), .val (.ref b25), .val (.ref b79), .val (.int (own_ix i0)), .val (.int (own_ix i1)), .val (.int (own_ix i2)), .val (.int (own_ix i3)), .val (.int (own_ix i4)), .val (.int (own_ix i5)), .val (.int (1 : Int32)), .unset, .unset, .unset, .unset] [])) _
                  refine stb0 _ ?_
                  show Steps p.tables e below (Tb0.setTop (mkF m 210 #[.val (.int p1), .val (.int p2), .val (.int p3), .val (.int p4), .val (.int p5), .val (.ref b12), .val (.ref b25), .val (.ref b79), .val (.int (own_ix i0)), .val (.int (own_ix i1)), .val (.int (own_ix i2)), .val (.int (own_ix i3)), .val (.int (own_ix i4)), .val (.int (own_ix i5)), .val (.int (1 : Int32)), .unset, .unset, .unset, .unset] [])) _
                  refine XS.iload Xb0.here hx rfl (hb hby at_210) rfl ?_
                  show Steps p.tables e below (Tb0.setTop (mkF m 212 #[.val (.int p1), .val (.int p2), .val (.int p3), .val (.int p4), .val (.int p5), .val (.ref b12), .val (.ref b25), .val (.ref b79), .val (.int (own_ix i0)), .val (.int (own_ix i1)), .val (.int (own_ix i2)), .val (.int (own_ix i3)), .val (.int (own_ix i4)), .val (.int (own_ix i5)), .val (.int (1 : Int32)), .unset, .unset, .unset, .unset] [(.int (1 : Int32))])) _
                  refine XS.iconst Xb0.here hx rfl (hb hby at_212) ?_
                  show Steps p.tables e below (Tb0.setTop (mkF m 213 #[.val (.int p1), .val (.int p2), .val (.int p3), .val (.int p4), .val (.int p5), .val (.ref b12), .val (.ref b25), .val (.ref b79), .val (.int (own_ix i0)), .val (.int (own_ix i1)), .val (.int (own_ix i2)), .val (.int (own_ix i3)), .val (.int (own_ix i4)), .val (.int (own_ix i5)), .val (.int (1 : Int32)), .unset, .unset, .unset, .unset] [(.int (2 : Int32)), (.int (1 : Int32))])) _
                  refine XS.icmpYes Xb0.here hx rfl (pc0 := 213) (pc' := 238) rfl (hb hby at_213) rfl (tlt ((by decide) : (1 : Int32) < (2 : Int32))).1 (by decide) (by decide) ?_
                  show Steps p.tables e below (Tb0.setTop (mkF m 238 #[.val (.int p1), .val (.int p2), .val (.int p3), .val (.int p4), .val (.int p5), .val (.ref b12), .val (.ref b25), .val (.ref b79), .val (.int (own_ix i0)), .val (.int (own_ix i1)), .val (.int (own_ix i2)), .val (.int (own_ix i3)), .val (.int (own_ix i4)), .val (.int (own_ix i5)), .val (.int (1 : Int32)), .unset, .unset, .unset, .unset] [])) _
                  refine XS.iload Xb0.here hx rfl (hb hby at_238) rfl ?_
                  show Steps p.tables e below (Tb0.setTop (mkF m 240 #[.val (.int p1), .val (.int p2), .val (.int p3), .val (.int p4), .val (.int p5), .val (.ref b12), .val (.ref b25), .val (.ref b79), .val (.int (own_ix i0)), .val (.int (own_ix i1)), .val (.int (own_ix i2)), .val (.int (own_ix i3)), .val (.int (own_ix i4)), .val (.int (own_ix i5)), .val (.int (1 : Int32)), .unset, .unset, .unset, .unset] [(.int (1 : Int32))])) _
                  refine XS.iconst Xb0.here hx rfl (hb hby at_240) ?_
                  show Steps p.tables e below (Tb0.setTop (mkF m 241 #[.val (.int p1), .val (.int p2), .val (.int p3), .val (.int p4), .val (.int p5), .val (.ref b12), .val (.ref b25), .val (.ref b79), .val (.int (own_ix i0)), .val (.int (own_ix i1)), .val (.int (own_ix i2)), .val (.int (own_ix i3)), .val (.int (own_ix i4)), .val (.int (own_ix i5)), .val (.int (1 : Int32)), .unset, .unset, .unset, .unset] [(.int (3 : Int32)), (.int (1 : Int32))])) _
                  refine XS.icmpYes Xb0.here hx rfl (pc0 := 241) (pc' := 266) rfl (hb hby at_241) rfl (tlt ((by decide) : (1 : Int32) < (3 : Int32))).1 (by decide) (by decide) ?_
                  show Steps p.tables e below (Tb0.setTop (mkF m 266 #[.val (.int p1), .val (.int p2), .val (.int p3), .val (.int p4), .val (.int p5), .val (.ref b12), .val (.ref b25), .val (.ref b79), .val (.int (own_ix i0)), .val (.int (own_ix i1)), .val (.int (own_ix i2)), .val (.int (own_ix i3)), .val (.int (own_ix i4)), .val (.int (own_ix i5)), .val (.int (1 : Int32)), .unset, .unset, .unset, .unset] [])) _
                  refine stf0 _ ?_
                  show Steps p.tables e below (Tf0.setTop (mkF m 294 #[.val (.int p1), .val (.int p2), .val (.int p3), .val (.int p4), .val (.int p5), .val (.ref b12), .val (.ref b25), .val (.ref b79), .val (.int (own_ix i0)), .val (.int (own_ix i1)), .val (.int (own_ix i2)), .val (.int (own_ix i3)), .val (.int (own_ix i4)), .val (.int (own_ix i5)), .val (.int (1 : Int32)), .val (.int (1 : Int32)), .unset, .unset, .unset] [])) _
                  refine stf1 _ ?_
                  show Steps p.tables e below (Tf1.setTop (mkF m 322 #[.val (.int p1), .val (.int p2), .val (.int p3), .val (.int p4), .val (.int p5), .val (.ref b12), .val (.ref b25), .val (.ref b79), .val (.int (own_ix i0)), .val (.int (own_ix i1)), .val (.int (own_ix i2)), .val (.int (own_ix i3)), .val (.int (own_ix i4)), .val (.int (own_ix i5)), .val (.int (1 : Int32)), .val (.int (1 : Int32)), .val (.int (1 : Int32)), .unset, .unset] [])) _
                  refine stf2 _ ?_
                  show Steps p.tables e below (Tf2.setTop (mkF m 350 #[.val (.int p1), .val (.int p2), .val (.int p3), .val (.int p4), .val (.int p5), .val (.ref b12), .val (.ref b25), .val (.ref b79), .val (.int (own_ix i0)), .val (.int (own_ix i1)), .val (.int (own_ix i2)), .val (.int (own_ix i3)), .val (.int (own_ix i4)), .val (.int (own_ix i5)), .val (.int (1 : Int32)), .val (.int (1 : Int32)), .val (.int (1 : Int32)), .val (.int (1 : Int32)), .unset] [])) _
                  refine stf3 _ ?_
                  show Steps p.tables e below (Tf3.setTop (mkF m 378 #[.val (.int p1), .val (.int p2), .val (.int p3), .val (.int p4), .val (.int p5), .val (.ref b12), .val (.ref b25), .val (.ref b79), .val (.int (own_ix i0)), .val (.int (own_ix i1)), .val (.int (own_ix i2)), .val (.int (own_ix i3)), .val (.int (own_ix i4)), .val (.int (own_ix i5)), .val (.int (1 : Int32)), .val (.int (1 : Int32)), .val (.int (1 : Int32)), .val (.int (1 : Int32)), .val (.int (1 : Int32))] [])) _
                  refine XS.iload Xf3.here hx rfl (hb hby at_378) rfl ?_
                  show Steps p.tables e below (Tf3.setTop (mkF m 380 #[.val (.int p1), .val (.int p2), .val (.int p3), .val (.int p4), .val (.int p5), .val (.ref b12), .val (.ref b25), .val (.ref b79), .val (.int (own_ix i0)), .val (.int (own_ix i1)), .val (.int (own_ix i2)), .val (.int (own_ix i3)), .val (.int (own_ix i4)), .val (.int (own_ix i5)), .val (.int (1 : Int32)), .val (.int (1 : Int32)), .val (.int (1 : Int32)), .val (.int (1 : Int32)), .val (.int (1 : Int32))] [(.int (1 : Int32))])) _
                  refine XS.ifNo Xf3.here hx rfl (hb hby at_380) rfl ((if0 _ _).trans (feq ((by decide) : ¬ ((1 : Int32) = (0 : Int32)))).1) ?_
                  show Steps p.tables e below (Tf3.setTop (mkF m 383 #[.val (.int p1), .val (.int p2), .val (.int p3), .val (.int p4), .val (.int p5), .val (.ref b12), .val (.ref b25), .val (.ref b79), .val (.int (own_ix i0)), .val (.int (own_ix i1)), .val (.int (own_ix i2)), .val (.int (own_ix i3)), .val (.int (own_ix i4)), .val (.int (own_ix i5)), .val (.int (1 : Int32)), .val (.int (1 : Int32)), .val (.int (1 : Int32)), .val (.int (1 : Int32)), .val (.int (1 : Int32))] [])) _
                  refine XS.iload Xf3.here hx rfl (hb hby at_383) rfl ?_
                  show Steps p.tables e below (Tf3.setTop (mkF m 385 #[.val (.int p1), .val (.int p2), .val (.int p3), .val (.int p4), .val (.int p5), .val (.ref b12), .val (.ref b25), .val (.ref b79), .val (.int (own_ix i0)), .val (.int (own_ix i1)), .val (.int (own_ix i2)), .val (.int (own_ix i3)), .val (.int (own_ix i4)), .val (.int (own_ix i5)), .val (.int (1 : Int32)), .val (.int (1 : Int32)), .val (.int (1 : Int32)), .val (.int (1 : Int32)), .val (.int (1 : Int32))] [(.int (1 : Int32))])) _
                  refine XS.ifNo Xf3.here hx rfl (hb hby at_385) rfl ((if0 _ _).trans (feq ((by decide) : ¬ ((1 : Int32) = (0 : Int32)))).1) ?_
                  show Steps p.tables e below (Tf3.setTop (mkF m 388 #[.val (.int p1), .val (.int p2), .val (.int p3), .val (.int p4), .val (.int p5), .val (.ref b12), .val (.ref b25), .val (.ref b79), .val (.int (own_ix i0)), .val (.int (own_ix i1)), .val (.int (own_ix i2)), .val (.int (own_ix i3)), .val (.int (own_ix i4)), .val (.int (own_ix i5)), .val (.int (1 : Int32)), .val (.int (1 : Int32)), .val (.int (1 : Int32)), .val (.int (1 : Int32)), .val (.int (1 : Int32))] [])) _
                  refine XS.iload Xf3.here hx rfl (hb hby at_388) rfl ?_
                  show Steps p.tables e below (Tf3.setTop (mkF m 390 #[.val (.int p1), .val (.int p2), .val (.int p3), .val (.int p4), .val (.int p5), .val (.ref b12), .val (.ref b25), .val (.ref b79), .val (.int (own_ix i0)), .val (.int (own_ix i1)), .val (.int (own_ix i2)), .val (.int (own_ix i3)), .val (.int (own_ix i4)), .val (.int (own_ix i5)), .val (.int (1 : Int32)), .val (.int (1 : Int32)), .val (.int (1 : Int32)), .val (.int (1 : Int32)), .val (.int (1 : Int32))] [(.int (1 : Int32))])) _
                  refine XS.ifNo Xf3.here hx rfl (hb hby at_390) rfl ((if0 _ _).trans (feq ((by decide) : ¬ ((1 : Int32) = (0 : Int32)))).1) ?_
                  show Steps p.tables e below (Tf3.setTop (mkF m 393 #[.val (.int p1), .val (.int p2), .val (.int p3), .val (.int p4), .val (.int p5), .val (.ref b12), .val (.ref b25), .val (.ref b79), .val (.int (own_ix i0)), .val (.int (own_ix i1)), .val (.int (own_ix i2)), .val (.int (own_ix i3)), .val (.int (own_ix i4)), .val (.int (own_ix i5)), .val (.int (1 : Int32)), .val (.int (1 : Int32)), .val (.int (1 : Int32)), .val (.int (1 : Int32)), .val (.int (1 : Int32))] [])) _
                  refine XS.iload Xf3.here hx rfl (hb hby at_393) rfl ?_
                  show Steps p.tables e below (Tf3.setTop (mkF m 395 #[.val (.int p1), .val (.int p2), .val (.int p3), .val (.int p4), .val (.int p5), .val (.ref b12), .val (.ref b25), .val (.ref b79), .val (.int (own_ix i0)), .val (.int (own_ix i1)), .val (.int (own_ix i2)), .val (.int (own_ix i3)), .val (.int (own_ix i4)), .val (.int (own_ix i5)), .val (.int (1 : Int32)), .val (.int (1 : Int32)), .val (.int (1 : Int32)), .val (.int (1 : Int32)), .val (.int (1 : Int32))] [(.int (1 : Int32))])) _
                  refine XS.ifNo Xf3.here hx rfl (hb hby at_395) rfl ((if0 _ _).trans (feq ((by decide) : ¬ ((1 : Int32) = (0 : Int32)))).1) ?_
                  show Steps p.tables e below (Tf3.setTop (mkF m 398 #[.val (.int p1), .val (.int p2), .val (.int p3), .val (.int p4), .val (.int p5), .val (.ref b12), .val (.ref b25), .val (.ref b79), .val (.int (own_ix i0)), .val (.int (own_ix i1)), .val (.int (own_ix i2)), .val (.int (own_ix i3)), .val (.int (own_ix i4)), .val (.int (own_ix i5)), .val (.int (1 : Int32)), .val (.int (1 : Int32)), .val (.int (1 : Int32)), .val (.int (1 : Int32)), .val (.int (1 : Int32))] [])) _
                  refine XS.iconst Xf3.here hx rfl (hb hby at_398) ?_
                  show Steps p.tables e below (Tf3.setTop (mkF m 399 #[.val (.int p1), .val (.int p2), .val (.int p3), .val (.int p4), .val (.int p5), .val (.ref b12), .val (.ref b25), .val (.ref b79), .val (.int (own_ix i0)), .val (.int (own_ix i1)), .val (.int (own_ix i2)), .val (.int (own_ix i3)), .val (.int (own_ix i4)), .val (.int (own_ix i5)), .val (.int (1 : Int32)), .val (.int (1 : Int32)), .val (.int (1 : Int32)), .val (.int (1 : Int32)), .val (.int (1 : Int32))] [(.int (1 : Int32))])) _
                  refine XS.goto Xf3.here hx rfl (pc0 := 399) (pc' := 403) rfl (hb hby at_399) (by decide) (by decide) ?_
                  show Steps p.tables e below (Tf3.setTop (mkF m 403 #[.val (.int p1), .val (.int p2), .val (.int p3), .val (.int p4), .val (.int p5), .val (.ref b12), .val (.ref b25), .val (.ref b79), .val (.int (own_ix i0)), .val (.int (own_ix i1)), .val (.int (own_ix i2)), .val (.int (own_ix i3)), .val (.int (own_ix i4)), .val (.int (own_ix i5)), .val (.int (1 : Int32)), .val (.int (1 : Int32)), .val (.int (1 : Int32)), .val (.int (1 : Int32)), .val (.int (1 : Int32))] [(.int (1 : Int32))])) _
                  exact retN Xf3 hx (t := .boolean) Bd.returns (by simp) (hb hby at_403) hr
                · show Qrm0 Z p1 p2 p3 p4 p5 h0 n0 _ Tf3.heap _
                  exact ⟨rfl, Nf3⟩
              · obtain ⟨Tb0, Lb0, parb0, rtb0, Xb0, Nb0, Ob0, Fb0, Ib0, Hb0, Vtb0, Vgb0, Vob0, stb0⟩ := own_blk0 hw t ord (fun i => i) (fun i => i) (own_f4 (0 : Int32) 1 2 3) i0 i1 i2 i3 i4 i5 p1 p2 p3 p4 p5 (2 : Int32) X103 hx hZ hby hml hown e103 O103 N103 F ⟨fun _ => rfl, fun _ => rfl, fun _ q => q, fun _ => Or.inl rfl, fun _ => Or.inl rfl⟩ inj g0 injO own_cls0 Vt Vg Vo net neg neo netg neog g_b79 (by decide) (by decide) (by decide) (by decide)
                obtain ⟨Tb1, Lb1, parb1, rtb1, Xb1, Nb1, Ob1, Fb1, Ib1, Hb1, Vtb1, Vgb1, Vob1, stb1⟩ := own_blk1 hw t ord parb0 rtb0 (own_jn (own_f4 (0 : Int32) 1 2 3) i0 i1) i0 i1 i2 i3 i4 i5 p1 p2 p3 p4 p5 (2 : Int32) Xb0 hx hZ hby hml hown rfl Ob0 Nb0 Fb0 Ib0 inj g0 injO Hb0 Vtb0 Vgb0 Vob0 net neg neo netg neog g_b79 (by decide) (by decide) (by decide) (by decide)
                obtain ⟨Tf0, Lf0, parf0, Xf0, Nf0, Of0, Ff0, If0, Vtf0, Vgf0, Vof0, stf0⟩ := own_fin_0 hw t ord parb1 rtb1 (own_jn (own_jn (own_f4 (0 : Int32) 1 2 3) i0 i1) i2 i3) i0 i1 i2 i3 i4 i5 p1 p2 p3 p4 p5 (2 : Int32) Xb1 hx hZ hby hml hown rfl Ob1 Nb1 Fb1 Ib1 inj g0 injO Hb1 Vtb1 Vgb1 Vob1 net neg neo netg neog g_b79 (by decide) (by decide) (by decide) (by decide)
                obtain ⟨Tf1, Lf1, parf1, Xf1, Nf1, Of1, Ff1, If1, Vtf1, Vgf1, Vof1, stf1⟩ := own_fin_1 hw t ord parf0 rtb1 (own_jn (own_jn (own_f4 (0 : Int32) 1 2 3) i0 i1) i2 i3) i0 i1 i2 i3 i4 i5 p1 p2 p3 p4 p5 (2 : Int32) Xf0 hx hZ hby hml hown rfl Of0 Nf0 Ff0 If0 inj g0 injO Hb1 Vtf0 Vgf0 Vof0 net neg neo netg neog g_b79 (by decide) (by decide) (by decide) (by decide)
                obtain ⟨Tf2, Lf2, parf2, Xf2, Nf2, Of2, Ff2, If2, Vtf2, Vgf2, Vof2, stf2⟩ := own_fin_2 hw t ord parf1 rtb1 (own_jn (own_jn (own_f4 (0 : Int32) 1 2 3) i0 i1) i2 i3) i0 i1 i2 i3 i4 i5 p1 p2 p3 p4 p5 (2 : Int32) Xf1 hx hZ hby hml hown rfl Of1 Nf1 Ff1 If1 inj g0 injO Hb1 Vtf1 Vgf1 Vof1 net neg neo netg neog g_b79 (by decide) (by decide) (by decide) (by decide)
                obtain ⟨Tf3, Lf3, parf3, Xf3, Nf3, Of3, Ff3, If3, Vtf3, Vgf3, Vof3, stf3⟩ := own_fin_3 hw t ord parf2 rtb1 (own_jn (own_jn (own_f4 (0 : Int32) 1 2 3) i0 i1) i2 i3) i0 i1 i2 i3 i4 i5 p1 p2 p3 p4 p5 (2 : Int32) Xf2 hx hZ hby hml hown rfl Of2 Nf2 Ff2 If2 inj g0 injO Hb1 Vtf2 Vgf2 Vof2 net neg neo netg neog g_b79 (by decide) (by decide) (by decide) (by decide)
                obtain ⟨fs, hr, hrun, hended, hW, hsame⟩ := Xf3.leave (v := some (.int (1 : Int32))) (fun h => by rw [Bd.returns] at h; cases h)
                refine ⟨_, _, pre118 _ ?_, hrun, hended, _, _, rfl, ?_, ⟨_, rfl⟩, hW, hsame.mono (by decide) (by decide)⟩
                · show Steps p.tables e below (T103.setTop (mkF m 182 #[.val (.int p1), .val (.int p2), .val (.int p3), .val (.int p4), .val (.int p5), .val (.ref b12), .val (.ref b25), .val (.ref b79), .val (.int (own_ix i0)), .val (.int (own_ix i1)), .val (.int (own_ix i2)), .val (.int (own_ix i3)), .val (.int (own_ix i4)), .val (.int (own_ix i5)), .val (.int nn), .unset, .unset, .unset, .unset] [])) _
                  rw [hk]
                  show Steps p.tables e below (T103.setTop (mkF m 182 #[.val (.int p1), .val (.int p2), .val (.int p3), .val (.int p4), .val (.int p5), .val (.ref b12), .val (.ref b25), .val (.ref b79), .val (.int (own_ix i0)), .val (.int (own_ix i1)), .val (.int (own_ix i2)), .val (.int (own_ix i3)), .val (.int (own_ix i4)), .val (.int (own_ix i5)), .val (.int (2 : Int32)), .unset, .unset, .unset, .unset] [])) _
                  refine XS.iload X103.here hx rfl (hb hby at_182) rfl ?_
                  show Steps p.tables e below (T103.setTop (mkF m 184 #[.val (.int p1), .val (.int p2), .val (.int p3), .val (.int p4), .val (.int p5), .val (.ref b12), .val (.ref b25), .val (.ref b79), .val (.int (own_ix i0)), .val (.int (own_ix i1)), .val (.int (own_ix i2)), .val (.int (own_ix i3)), .val (.int (own_ix i4)), .val (.int (own_ix i5)), .val (.int (2 : Int32)), .unset, .unset, .unset, .unset] [(.int (2 : Int32))])) _
                  refine XS.iconst X103.here hx rfl (hb hby at_184) ?_
                  show Steps p.tables e below (T103.setTop (mkF m 185 #[.val (.int p1), .val (.int p2), .val (.int p3), .val (.int p4), .val (.int p5), .val (.ref b12), .val (.ref b25), .val (.ref b79), .val (.int (own_ix i0)), .val (.int (own_ix i1)), .val (.int (own_ix i2)), .val (.int (own_ix i3)), .val (.int (own_ix i4)), .val (.int (own_ix i5)), .val (.int (2 : Int32)), .unset, .unset, .unset, .unset] [(.int (1 : Int32)), (.int (2 : Int32))])) _
                  refine XS.icmpNo X103.here hx rfl (hb hby at_185) rfl (flt ((by decide) : ¬ ((2 : Int32) < (1 : Int32)))).1 ?_
                  show Steps p.tables e below (T103.setTop (mkF m 188 #[.val (.int p1), .val (.int p2), .val (.int p3), .val (.int p4), .val (.int p5), .val (.ref b12), .val (.ref b25), .val (.ref b79), .val (.int (own_ix i0)), .val (.int (own_ix i1)), .val (.int (own_ix i2)), .val (.int (own_ix i3)), .val (.int (own_ix i4)), .val (.int (own_ix i5)), .val (.int (2 : Int32)), .unset, .unset, .unset, .unset] [])) _
                  refine stb0 _ ?_
                  show Steps p.tables e below (Tb0.setTop (mkF m 210 #[.val (.int p1), .val (.int p2), .val (.int p3), .val (.int p4), .val (.int p5), .val (.ref b12), .val (.ref b25), .val (.ref b79), .val (.int (own_ix i0)), .val (.int (own_ix i1)), .val (.int (own_ix i2)), .val (.int (own_ix i3)), .val (.int (own_ix i4)), .val (.int (own_ix i5)), .val (.int (2 : Int32)), .unset, .unset, .unset, .unset] [])) _
                  refine XS.iload Xb0.here hx rfl (hb hby at_210) rfl ?_
                  show Steps p.tables e below (Tb0.setTop (mkF m 212 #[.val (.int p1), .val (.int p2), .val (.int p3), .val (.int p4), .val (.int p5), .val (.ref b12), .val (.ref b25), .val (.ref b79), .val (.int (own_ix i0)), .val (.int (own_ix i1)), .val (.int (own_ix i2)), .val (.int (own_ix i3)), .val (.int (own_ix i4)), .val (.int (own_ix i5)), .val (.int (2 : Int32)), .unset, .unset, .unset, .unset] [(.int (2 : Int32))])) _
                  refine XS.iconst Xb0.here hx rfl (hb hby at_212) ?_
                  show Steps p.tables e below (Tb0.setTop (mkF m 213 #[.val (.int p1), .val (.int p2), .val (.int p3), .val (.int p4), .val (.int p5), .val (.ref b12), .val (.ref b25), .val (.ref b79), .val (.int (own_ix i0)), .val (.int (own_ix i1)), .val (.int (own_ix i2)), .val (.int (own_ix i3)), .val (.int (own_ix i4)), .val (.int (own_ix i5)), .val (.int (2 : Int32)), .unset, .unset, .unset, .unset] [(.int (2 : Int32)), (.int (2 : Int32))])) _
                  refine XS.icmpNo Xb0.here hx rfl (hb hby at_213) rfl (flt ((by decide) : ¬ ((2 : Int32) < (2 : Int32)))).1 ?_
                  show Steps p.tables e below (Tb0.setTop (mkF m 216 #[.val (.int p1), .val (.int p2), .val (.int p3), .val (.int p4), .val (.int p5), .val (.ref b12), .val (.ref b25), .val (.ref b79), .val (.int (own_ix i0)), .val (.int (own_ix i1)), .val (.int (own_ix i2)), .val (.int (own_ix i3)), .val (.int (own_ix i4)), .val (.int (own_ix i5)), .val (.int (2 : Int32)), .unset, .unset, .unset, .unset] [])) _
                  refine stb1 _ ?_
                  show Steps p.tables e below (Tb1.setTop (mkF m 238 #[.val (.int p1), .val (.int p2), .val (.int p3), .val (.int p4), .val (.int p5), .val (.ref b12), .val (.ref b25), .val (.ref b79), .val (.int (own_ix i0)), .val (.int (own_ix i1)), .val (.int (own_ix i2)), .val (.int (own_ix i3)), .val (.int (own_ix i4)), .val (.int (own_ix i5)), .val (.int (2 : Int32)), .unset, .unset, .unset, .unset] [])) _
                  refine XS.iload Xb1.here hx rfl (hb hby at_238) rfl ?_
                  show Steps p.tables e below (Tb1.setTop (mkF m 240 #[.val (.int p1), .val (.int p2), .val (.int p3), .val (.int p4), .val (.int p5), .val (.ref b12), .val (.ref b25), .val (.ref b79), .val (.int (own_ix i0)), .val (.int (own_ix i1)), .val (.int (own_ix i2)), .val (.int (own_ix i3)), .val (.int (own_ix i4)), .val (.int (own_ix i5)), .val (.int (2 : Int32)), .unset, .unset, .unset, .unset] [(.int (2 : Int32))])) _
                  refine XS.iconst Xb1.here hx rfl (hb hby at_240) ?_
                  show Steps p.tables e below (Tb1.setTop (mkF m 241 #[.val (.int p1), .val (.int p2), .val (.int p3), .val (.int p4), .val (.int p5), .val (.ref b12), .val (.ref b25), .val (.ref b79), .val (.int (own_ix i0)), .val (.int (own_ix i1)), .val (.int (own_ix i2)), .val (.int (own_ix i3)), .val (.int (own_ix i4)), .val (.int (own_ix i5)), .val (.int (2 : Int32)), .unset, .unset, .unset, .unset] [(.int (3 : Int32)), (.int (2 : Int32))])) _
                  refine XS.icmpYes Xb1.here hx rfl (pc0 := 241) (pc' := 266) rfl (hb hby at_241) rfl (tlt ((by decide) : (2 : Int32) < (3 : Int32))).1 (by decide) (by decide) ?_
                  show Steps p.tables e below (Tb1.setTop (mkF m 266 #[.val (.int p1), .val (.int p2), .val (.int p3), .val (.int p4), .val (.int p5), .val (.ref b12), .val (.ref b25), .val (.ref b79), .val (.int (own_ix i0)), .val (.int (own_ix i1)), .val (.int (own_ix i2)), .val (.int (own_ix i3)), .val (.int (own_ix i4)), .val (.int (own_ix i5)), .val (.int (2 : Int32)), .unset, .unset, .unset, .unset] [])) _
                  refine stf0 _ ?_
                  show Steps p.tables e below (Tf0.setTop (mkF m 294 #[.val (.int p1), .val (.int p2), .val (.int p3), .val (.int p4), .val (.int p5), .val (.ref b12), .val (.ref b25), .val (.ref b79), .val (.int (own_ix i0)), .val (.int (own_ix i1)), .val (.int (own_ix i2)), .val (.int (own_ix i3)), .val (.int (own_ix i4)), .val (.int (own_ix i5)), .val (.int (2 : Int32)), .val (.int (1 : Int32)), .unset, .unset, .unset] [])) _
                  refine stf1 _ ?_
                  show Steps p.tables e below (Tf1.setTop (mkF m 322 #[.val (.int p1), .val (.int p2), .val (.int p3), .val (.int p4), .val (.int p5), .val (.ref b12), .val (.ref b25), .val (.ref b79), .val (.int (own_ix i0)), .val (.int (own_ix i1)), .val (.int (own_ix i2)), .val (.int (own_ix i3)), .val (.int (own_ix i4)), .val (.int (own_ix i5)), .val (.int (2 : Int32)), .val (.int (1 : Int32)), .val (.int (1 : Int32)), .unset, .unset] [])) _
                  refine stf2 _ ?_
                  show Steps p.tables e below (Tf2.setTop (mkF m 350 #[.val (.int p1), .val (.int p2), .val (.int p3), .val (.int p4), .val (.int p5), .val (.ref b12), .val (.ref b25), .val (.ref b79), .val (.int (own_ix i0)), .val (.int (own_ix i1)), .val (.int (own_ix i2)), .val (.int (own_ix i3)), .val (.int (own_ix i4)), .val (.int (own_ix i5)), .val (.int (2 : Int32)), .val (.int (1 : Int32)), .val (.int (1 : Int32)), .val (.int (1 : Int32)), .unset] [])) _
                  refine stf3 _ ?_
                  show Steps p.tables e below (Tf3.setTop (mkF m 378 #[.val (.int p1), .val (.int p2), .val (.int p3), .val (.int p4), .val (.int p5), .val (.ref b12), .val (.ref b25), .val (.ref b79), .val (.int (own_ix i0)), .val (.int (own_ix i1)), .val (.int (own_ix i2)), .val (.int (own_ix i3)), .val (.int (own_ix i4)), .val (.int (own_ix i5)), .val (.int (2 : Int32)), .val (.int (1 : Int32)), .val (.int (1 : Int32)), .val (.int (1 : Int32)), .val (.int (1 : Int32))] [])) _
                  refine XS.iload Xf3.here hx rfl (hb hby at_378) rfl ?_
                  show Steps p.tables e below (Tf3.setTop (mkF m 380 #[.val (.int p1), .val (.int p2), .val (.int p3), .val (.int p4), .val (.int p5), .val (.ref b12), .val (.ref b25), .val (.ref b79), .val (.int (own_ix i0)), .val (.int (own_ix i1)), .val (.int (own_ix i2)), .val (.int (own_ix i3)), .val (.int (own_ix i4)), .val (.int (own_ix i5)), .val (.int (2 : Int32)), .val (.int (1 : Int32)), .val (.int (1 : Int32)), .val (.int (1 : Int32)), .val (.int (1 : Int32))] [(.int (1 : Int32))])) _
                  refine XS.ifNo Xf3.here hx rfl (hb hby at_380) rfl ((if0 _ _).trans (feq ((by decide) : ¬ ((1 : Int32) = (0 : Int32)))).1) ?_
                  show Steps p.tables e below (Tf3.setTop (mkF m 383 #[.val (.int p1), .val (.int p2), .val (.int p3), .val (.int p4), .val (.int p5), .val (.ref b12), .val (.ref b25), .val (.ref b79), .val (.int (own_ix i0)), .val (.int (own_ix i1)), .val (.int (own_ix i2)), .val (.int (own_ix i3)), .val (.int (own_ix i4)), .val (.int (own_ix i5)), .val (.int (2 : Int32)), .val (.int (1 : Int32)), .val (.int (1 : Int32)), .val (.int (1 : Int32)), .val (.int (1 : Int32))] [])) _
                  refine XS.iload Xf3.here hx rfl (hb hby at_383) rfl ?_
                  show Steps p.tables e below (Tf3.setTop (mkF m 385 #[.val (.int p1), .val (.int p2), .val (.int p3), .val (.int p4), .val (.int p5), .val (.ref b12), .val (.ref b25), .val (.ref b79), .val (.int (own_ix i0)), .val (.int (own_ix i1)), .val (.int (own_ix i2)), .val (.int (own_ix i3)), .val (.int (own_ix i4)), .val (.int (own_ix i5)), .val (.int (2 : Int32)), .val (.int (1 : Int32)), .val (.int (1 : Int32)), .val (.int (1 : Int32)), .val (.int (1 : Int32))] [(.int (1 : Int32))])) _
                  refine XS.ifNo Xf3.here hx rfl (hb hby at_385) rfl ((if0 _ _).trans (feq ((by decide) : ¬ ((1 : Int32) = (0 : Int32)))).1) ?_
                  show Steps p.tables e below (Tf3.setTop (mkF m 388 #[.val (.int p1), .val (.int p2), .val (.int p3), .val (.int p4), .val (.int p5), .val (.ref b12), .val (.ref b25), .val (.ref b79), .val (.int (own_ix i0)), .val (.int (own_ix i1)), .val (.int (own_ix i2)), .val (.int (own_ix i3)), .val (.int (own_ix i4)), .val (.int (own_ix i5)), .val (.int (2 : Int32)), .val (.int (1 : Int32)), .val (.int (1 : Int32)), .val (.int (1 : Int32)), .val (.int (1 : Int32))] [])) _
                  refine XS.iload Xf3.here hx rfl (hb hby at_388) rfl ?_
                  show Steps p.tables e below (Tf3.setTop (mkF m 390 #[.val (.int p1), .val (.int p2), .val (.int p3), .val (.int p4), .val (.int p5), .val (.ref b12), .val (.ref b25), .val (.ref b79), .val (.int (own_ix i0)), .val (.int (own_ix i1)), .val (.int (own_ix i2)), .val (.int (own_ix i3)), .val (.int (own_ix i4)), .val (.int (own_ix i5)), .val (.int (2 : Int32)), .val (.int (1 : Int32)), .val (.int (1 : Int32)), .val (.int (1 : Int32)), .val (.int (1 : Int32))] [(.int (1 : Int32))])) _
                  refine XS.ifNo Xf3.here hx rfl (hb hby at_390) rfl ((if0 _ _).trans (feq ((by decide) : ¬ ((1 : Int32) = (0 : Int32)))).1) ?_
                  show Steps p.tables e below (Tf3.setTop (mkF m 393 #[.val (.int p1), .val (.int p2), .val (.int p3), .val (.int p4), .val (.int p5), .val (.ref b12), .val (.ref b25), .val (.ref b79), .val (.int (own_ix i0)), .val (.int (own_ix i1)), .val (.int (own_ix i2)), .val (.int (own_ix i3)), .val (.int (own_ix i4)), .val (.int (own_ix i5)), .val (.int (2 : Int32)), .val (.int (1 : Int32)), .val (.int (1 : Int32)), .val (.int (1 : Int32)), .val (.int (1 : Int32))] [])) _
                  refine XS.iload Xf3.here hx rfl (hb hby at_393) rfl ?_
                  show Steps p.tables e below (Tf3.setTop (mkF m 395 #[.val (.int p1), .val (.int p2), .val (.int p3), .val (.int p4), .val (.int p5), .val (.ref b12), .val (.ref b25), .val (.ref b79), .val (.int (own_ix i0)), .val (.int (own_ix i1)), .val (.int (own_ix i2)), .val (.int (own_ix i3)), .val (.int (own_ix i4)), .val (.int (own_ix i5)), .val (.int (2 : Int32)), .val (.int (1 : Int32)), .val (.int (1 : Int32)), .val (.int (1 : Int32)), .val (.int (1 : Int32))] [(.int (1 : Int32))])) _
                  refine XS.ifNo Xf3.here hx rfl (hb hby at_395) rfl ((if0 _ _).trans (feq ((by decide) : ¬ ((1 : Int32) = (0 : Int32)))).1) ?_
                  show Steps p.tables e below (Tf3.setTop (mkF m 398 #[.val (.int p1), .val (.int p2), .val (.int p3), .val (.int p4), .val (.int p5), .val (.ref b12), .val (.ref b25), .val (.ref b79), .val (.int (own_ix i0)), .val (.int (own_ix i1)), .val (.int (own_ix i2)), .val (.int (own_ix i3)), .val (.int (own_ix i4)), .val (.int (own_ix i5)), .val (.int (2 : Int32)), .val (.int (1 : Int32)), .val (.int (1 : Int32)), .val (.int (1 : Int32)), .val (.int (1 : Int32))] [])) _
                  refine XS.iconst Xf3.here hx rfl (hb hby at_398) ?_
                  show Steps p.tables e below (Tf3.setTop (mkF m 399 #[.val (.int p1), .val (.int p2), .val (.int p3), .val (.int p4), .val (.int p5), .val (.ref b12), .val (.ref b25), .val (.ref b79), .val (.int (own_ix i0)), .val (.int (own_ix i1)), .val (.int (own_ix i2)), .val (.int (own_ix i3)), .val (.int (own_ix i4)), .val (.int (own_ix i5)), .val (.int (2 : Int32)), .val (.int (1 : Int32)), .val (.int (1 : Int32)), .val (.int (1 : Int32)), .val (.int (1 : Int32))] [(.int (1 : Int32))])) _
                  refine XS.goto Xf3.here hx rfl (pc0 := 399) (pc' := 403) rfl (hb hby at_399) (by decide) (by decide) ?_
                  show Steps p.tables e below (Tf3.setTop (mkF m 403 #[.val (.int p1), .val (.int p2), .val (.int p3), .val (.int p4), .val (.int p5), .val (.ref b12), .val (.ref b25), .val (.ref b79), .val (.int (own_ix i0)), .val (.int (own_ix i1)), .val (.int (own_ix i2)), .val (.int (own_ix i3)), .val (.int (own_ix i4)), .val (.int (own_ix i5)), .val (.int (2 : Int32)), .val (.int (1 : Int32)), .val (.int (1 : Int32)), .val (.int (1 : Int32)), .val (.int (1 : Int32))] [(.int (1 : Int32))])) _
                  exact retN Xf3 hx (t := .boolean) Bd.returns (by simp) (hb hby at_403) hr
                · show Qrm0 Z p1 p2 p3 p4 p5 h0 n0 _ Tf3.heap _
                  exact ⟨rfl, Nf3⟩
              · obtain ⟨Tb0, Lb0, parb0, rtb0, Xb0, Nb0, Ob0, Fb0, Ib0, Hb0, Vtb0, Vgb0, Vob0, stb0⟩ := own_blk0 hw t ord (fun i => i) (fun i => i) (own_f4 (0 : Int32) 1 2 3) i0 i1 i2 i3 i4 i5 p1 p2 p3 p4 p5 (3 : Int32) X103 hx hZ hby hml hown e103 O103 N103 F ⟨fun _ => rfl, fun _ => rfl, fun _ q => q, fun _ => Or.inl rfl, fun _ => Or.inl rfl⟩ inj g0 injO own_cls0 Vt Vg Vo net neg neo netg neog g_b79 (by decide) (by decide) (by decide) (by decide)
                obtain ⟨Tb1, Lb1, parb1, rtb1, Xb1, Nb1, Ob1, Fb1, Ib1, Hb1, Vtb1, Vgb1, Vob1, stb1⟩ := own_blk1 hw t ord parb0 rtb0 (own_jn (own_f4 (0 : Int32) 1 2 3) i0 i1) i0 i1 i2 i3 i4 i5 p1 p2 p3 p4 p5 (3 : Int32) Xb0 hx hZ hby hml hown rfl Ob0 Nb0 Fb0 Ib0 inj g0 injO Hb0 Vtb0 Vgb0 Vob0 net neg neo netg neog g_b79 (by decide) (by decide) (by decide) (by decide)
                obtain ⟨Tb2, Lb2, parb2, rtb2, Xb2, Nb2, Ob2, Fb2, Ib2, Hb2, Vtb2, Vgb2, Vob2, stb2⟩ := own_blk2 hw t ord parb1 rtb1 (own_jn (own_jn (own_f4 (0 : Int32) 1 2 3) i0 i1) i2 i3) i0 i1 i2 i3 i4 i5 p1 p2 p3 p4 p5 (3 : Int32) Xb1 hx hZ hby hml hown rfl Ob1 Nb1 Fb1 Ib1 inj g0 injO Hb1 Vtb1 Vgb1 Vob1 net neg neo netg neog g_b79 (by decide) (by decide) (by decide) (by decide)
                obtain ⟨Tf0, Lf0, parf0, Xf0, Nf0, Of0, Ff0, If0, Vtf0, Vgf0, Vof0, stf0⟩ := own_fin_0 hw t ord parb2 rtb2 (own_jn (own_jn (own_jn (own_f4 (0 : Int32) 1 2 3) i0 i1) i2 i3) i4 i5) i0 i1 i2 i3 i4 i5 p1 p2 p3 p4 p5 (3 : Int32) Xb2 hx hZ hby hml hown rfl Ob2 Nb2 Fb2 Ib2 inj g0 injO Hb2 Vtb2 Vgb2 Vob2 net neg neo netg neog g_b79 (by decide) (by decide) (by decide) (by decide)
                obtain ⟨Tf1, Lf1, parf1, Xf1, Nf1, Of1, Ff1, If1, Vtf1, Vgf1, Vof1, stf1⟩ := own_fin_1 hw t ord parf0 rtb2 (own_jn (own_jn (own_jn (own_f4 (0 : Int32) 1 2 3) i0 i1) i2 i3) i4 i5) i0 i1 i2 i3 i4 i5 p1 p2 p3 p4 p5 (3 : Int32) Xf0 hx hZ hby hml hown rfl Of0 Nf0 Ff0 If0 inj g0 injO Hb2 Vtf0 Vgf0 Vof0 net neg neo netg neog g_b79 (by decide) (by decide) (by decide) (by decide)
                obtain ⟨Tf2, Lf2, parf2, Xf2, Nf2, Of2, Ff2, If2, Vtf2, Vgf2, Vof2, stf2⟩ := own_fin_2 hw t ord parf1 rtb2 (own_jn (own_jn (own_jn (own_f4 (0 : Int32) 1 2 3) i0 i1) i2 i3) i4 i5) i0 i1 i2 i3 i4 i5 p1 p2 p3 p4 p5 (3 : Int32) Xf1 hx hZ hby hml hown rfl Of1 Nf1 Ff1 If1 inj g0 injO Hb2 Vtf1 Vgf1 Vof1 net neg neo netg neog g_b79 (by decide) (by decide) (by decide) (by decide)
                obtain ⟨Tf3, Lf3, parf3, Xf3, Nf3, Of3, Ff3, If3, Vtf3, Vgf3, Vof3, stf3⟩ := own_fin_3 hw t ord parf2 rtb2 (own_jn (own_jn (own_jn (own_f4 (0 : Int32) 1 2 3) i0 i1) i2 i3) i4 i5) i0 i1 i2 i3 i4 i5 p1 p2 p3 p4 p5 (3 : Int32) Xf2 hx hZ hby hml hown rfl Of2 Nf2 Ff2 If2 inj g0 injO Hb2 Vtf2 Vgf2 Vof2 net neg neo netg neog g_b79 (by decide) (by decide) (by decide) (by decide)
                obtain ⟨fs, hr, hrun, hended, hW, hsame⟩ := Xf3.leave (v := some (.int (1 : Int32))) (fun h => by rw [Bd.returns] at h; cases h)
                refine ⟨_, _, pre118 _ ?_, hrun, hended, _, _, rfl, ?_, ⟨_, rfl⟩, hW, hsame.mono (by decide) (by decide)⟩
                · show Steps p.tables e below (T103.setTop (mkF m 182 #[.val (.int p1), .val (.int p2), .val (.int p3), .val (.int p4), .val (.int p5), .val (.ref b12), .val (.ref b25), .val (.ref b79), .val (.int (own_ix i0)), .val (.int (own_ix i1)), .val (.int (own_ix i2)), .val (.int (own_ix i3)), .val (.int (own_ix i4)), .val (.int (own_ix i5)), .val (.int nn), .unset, .unset, .unset, .unset] [])) _
                  rw [hk]
                  show Steps p.tables e below (T103.setTop (mkF m 182 #[.val (.int p1), .val (.int p2), .val (.int p3), .val (.int p4), .val (.int p5), .val (.ref b12), .val (.ref b25), .val (.ref b79), .val (.int (own_ix i0)), .val (.int (own_ix i1)), .val (.int (own_ix i2)), .val (.int (own_ix i3)), .val (.int (own_ix i4)), .val (.int (own_ix i5)), .val (.int (3 : Int32)), .unset, .unset, .unset, .unset] [])) _
                  refine XS.iload X103.here hx rfl (hb hby at_182) rfl ?_
                  show Steps p.tables e below (T103.setTop (mkF m 184 #[.val (.int p1), .val (.int p2), .val (.int p3), .val (.int p4), .val (.int p5), .val (.ref b12), .val (.ref b25), .val (.ref b79), .val (.int (own_ix i0)), .val (.int (own_ix i1)), .val (.int (own_ix i2)), .val (.int (own_ix i3)), .val (.int (own_ix i4)), .val (.int (own_ix i5)), .val (.int (3 : Int32)), .unset, .unset, .unset, .unset] [(.int (3 : Int32))])) _
                  refine XS.iconst X103.here hx rfl (hb hby at_184) ?_
                  show Steps p.tables e below (T103.setTop (mkF m 185 #[.val (.int p1), .val (.int p2), .val (.int p3), .val (.int p4), .val (.int p5), .val (.ref b12), .val (.ref b25), .val (.ref b79), .val (.int (own_ix i0)), .val (.int (own_ix i1)), .val (.int (own_ix i2)), .val (.int (own_ix i3)), .val (.int (own_ix i4)), .val (.int (own_ix i5)), .val (.int (3 : Int32)), .unset, .unset, .unset, .unset] [(.int (1 : Int32)), (.int (3 : Int32))])) _
                  refine XS.icmpNo X103.here hx rfl (hb hby at_185) rfl (flt ((by decide) : ¬ ((3 : Int32) < (1 : Int32)))).1 ?_
                  show Steps p.tables e below (T103.setTop (mkF m 188 #[.val (.int p1), .val (.int p2), .val (.int p3), .val (.int p4), .val (.int p5), .val (.ref b12), .val (.ref b25), .val (.ref b79), .val (.int (own_ix i0)), .val (.int (own_ix i1)), .val (.int (own_ix i2)), .val (.int (own_ix i3)), .val (.int (own_ix i4)), .val (.int (own_ix i5)), .val (.int (3 : Int32)), .unset, .unset, .unset, .unset] [])) _
                  refine stb0 _ ?_
                  show Steps p.tables e below (Tb0.setTop (mkF m 210 #[.val (.int p1), .val (.int p2), .val (.int p3), .val (.int p4), .val (.int p5), .val (.ref b12), .val (.ref b25), .val (.ref b79), .val (.int (own_ix i0)), .val (.int (own_ix i1)), .val (.int (own_ix i2)), .val (.int (own_ix i3)), .val (.int (own_ix i4)), .val (.int (own_ix i5)), .val (.int (3 : Int32)), .unset, .unset, .unset, .unset] [])) _
                  refine XS.iload Xb0.here hx rfl (hb hby at_210) rfl ?_
                  show Steps p.tables e below (Tb0.setTop (mkF m 212 #[.val (.int p1), .val (.int p2), .val (.int p3), .val (.int p4), .val (.int p5), .val (.ref b12), .val (.ref b25), .val (.ref b79), .val (.int (own_ix i0)), .val (.int (own_ix i1)), .val (.int (own_ix i2)), .val (.int (own_ix i3)), .val (.int (own_ix i4)), .val (.int (own_ix i5)), .val (.int (3 : Int32)), .unset, .unset, .unset, .unset] [(.int (3 : Int32))])) _
                  refine XS.iconst Xb0.here hx rfl (hb hby at_212) ?_
                  show Steps p.tables e below (Tb0.setTop (mkF m 213 #[.val (.int p1), .val (.int p2), .val (.int p3), .val (.int p4), .val (.int p5), .val (.ref b12), .val (.ref b25), .val (.ref b79), .val (.int (own_ix i0)), .val (.int (own_ix i1)), .val (.int (own_ix i2)), .val (.int (own_ix i3)), .val (.int (own_ix i4)), .val (.int (own_ix i5)), .val (.int (3 : Int32)), .unset, .unset, .unset, .unset] [(.int (2 : Int32)), (.int (3 : Int32))])) _
                  refine XS.icmpNo Xb0.here hx rfl (hb hby at_213) rfl (flt ((by decide) : ¬ ((3 : Int32) < (2 : Int32)))).1 ?_
                  show Steps p.tables e below (Tb0.setTop (mkF m 216 #[.val (.int p1), .val (.int p2), .val (.int p3), .val (.int p4), .val (.int p5), .val (.ref b12), .val (.ref b25), .val (.ref b79), .val (.int (own_ix i0)), .val (.int (own_ix i1)), .val (.int (own_ix i2)), .val (.int (own_ix i3)), .val (.int (own_ix i4)), .val (.int (own_ix i5)), .val (.int (3 : Int32)), .unset, .unset, .unset, .unset] [])) _
                  refine stb1 _ ?_
                  show Steps p.tables e below (Tb1.setTop (mkF m 238 #[.val (.int p1), .val (.int p2), .val (.int p3), .val (.int p4), .val (.int p5), .val (.ref b12), .val (.ref b25), .val (.ref b79), .val (.int (own_ix i0)), .val (.int (own_ix i1)), .val (.int (own_ix i2)), .val (.int (own_ix i3)), .val (.int (own_ix i4)), .val (.int (own_ix i5)), .val (.int (3 : Int32)), .unset, .unset, .unset, .unset] [])) _
                  refine XS.iload Xb1.here hx rfl (hb hby at_238) rfl ?_
                  show Steps p.tables e below (Tb1.setTop (mkF m 240 #[.val (.int p1), .val (.int p2), .val (.int p3), .val (.int p4), .val (.int p5), .val (.ref b12), .val (.ref b25), .val (.ref b79), .val (.int (own_ix i0)), .val (.int (own_ix i1)), .val (.int (own_ix i2)), .val (.int (own_ix i3)), .val (.int (own_ix i4)), .val (.int (own_ix i5)), .val (.int (3 : Int32)), .unset, .unset, .unset, .unset] [(.int (3 : Int32))])) _
                  refine XS.iconst Xb1.here hx rfl (hb hby at_240) ?_
                  show Steps p.tables e below (Tb1.setTop (mkF m 241 #[.val (.int p1), .val (.int p2), .val (.int p3), .val (.int p4), .val (.int p5), .val (.ref b12), .val (.ref b25), .val (.ref b79), .val (.int (own_ix i0)), .val (.int (own_ix i1)), .val (.int (own_ix i2)), .val (.int (own_ix i3)), .val (.int (own_ix i4)), .val (.int (own_ix i5)), .val (.int (3 : Int32)), .unset, .unset, .unset, .unset] [(.int (3 : Int32)), (.int (3 : Int32))])) _
                  refine XS.icmpNo Xb1.here hx rfl (hb hby at_241) rfl (flt ((by decide) : ¬ ((3 : Int32) < (3 : Int32)))).1 ?_
                  show Steps p.tables e below (Tb1.setTop (mkF m 244 #[.val (.int p1), .val (.int p2), .val (.int p3), .val (.int p4), .val (.int p5), .val (.ref b12), .val (.ref b25), .val (.ref b79), .val (.int (own_ix i0)), .val (.int (own_ix i1)), .val (.int (own_ix i2)), .val (.int (own_ix i3)), .val (.int (own_ix i4)), .val (.int (own_ix i5)), .val (.int (3 : Int32)), .unset, .unset, .unset, .unset] [])) _
                  refine stb2 _ ?_
                  show Steps p.tables e below (Tb2.setTop (mkF m 266 #[.val (.int p1), .val (.int p2), .val (.int p3), .val (.int p4), .val (.int p5), .val (.ref b12), .val (.ref b25), .val (.ref b79), .val (.int (own_ix i0)), .val (.int (own_ix i1)), .val (.int (own_ix i2)), .val (.int (own_ix i3)), .val (.int (own_ix i4)), .val (.int (own_ix i5)), .val (.int (3 : Int32)), .unset, .unset, .unset, .unset] [])) _
                  refine stf0 _ ?_
                  show Steps p.tables e below (Tf0.setTop (mkF m 294 #[.val (.int p1), .val (.int p2), .val (.int p3), .val (.int p4), .val (.int p5), .val (.ref b12), .val (.ref b25), .val (.ref b79), .val (.int (own_ix i0)), .val (.int (own_ix i1)), .val (.int (own_ix i2)), .val (.int (own_ix i3)), .val (.int (own_ix i4)), .val (.int (own_ix i5)), .val (.int (3 : Int32)), .val (.int (1 : Int32)), .unset, .unset, .unset] [])) _
                  refine stf1 _ ?_
                  show Steps p.tables e below (Tf1.setTop (mkF m 322 #[.val (.int p1), .val (.int p2), .val (.int p3), .val (.int p4), .val (.int p5), .val (.ref b12), .val (.ref b25), .val (.ref b79), .val (.int (own_ix i0)), .val (.int (own_ix i1)), .val (.int (own_ix i2)), .val (.int (own_ix i3)), .val (.int (own_ix i4)), .val (.int (own_ix i5)), .val (.int (3 : Int32)), .val (.int (1 : Int32)), .val (.int (1 : Int32)), .unset, .unset] [])) _
                  refine stf2 _ ?_
                  show Steps p.tables e below (Tf2.setTop (mkF m 350 #[.val (.int p1), .val (.int p2), .val (.int p3), .val (.int p4), .val (.int p5), .val (.ref b12), .val (.ref b25), .val (.ref b79), .val (.int (own_ix i0)), .val (.int (own_ix i1)), .val (.int (own_ix i2)), .val (.int (own_ix i3)), .val (.int (own_ix i4)), .val (.int (own_ix i5)), .val (.int (3 : Int32)), .val (.int (1 : Int32)), .val (.int (1 : Int32)), .val (.int (1 : Int32)), .unset] [])) _
                  refine stf3 _ ?_
                  show Steps p.tables e below (Tf3.setTop (mkF m 378 #[.val (.int p1), .val (.int p2), .val (.int p3), .val (.int p4), .val (.int p5), .val (.ref b12), .val (.ref b25), .val (.ref b79), .val (.int (own_ix i0)), .val (.int (own_ix i1)), .val (.int (own_ix i2)), .val (.int (own_ix i3)), .val (.int (own_ix i4)), .val (.int (own_ix i5)), .val (.int (3 : Int32)), .val (.int (1 : Int32)), .val (.int (1 : Int32)), .val (.int (1 : Int32)), .val (.int (1 : Int32))] [])) _
                  refine XS.iload Xf3.here hx rfl (hb hby at_378) rfl ?_
                  show Steps p.tables e below (Tf3.setTop (mkF m 380 #[.val (.int p1), .val (.int p2), .val (.int p3), .val (.int p4), .val (.int p5), .val (.ref b12), .val (.ref b25), .val (.ref b79), .val (.int (own_ix i0)), .val (.int (own_ix i1)), .val (.int (own_ix i2)), .val (.int (own_ix i3)), .val (.int (own_ix i4)), .val (.int (own_ix i5)), .val (.int (3 : Int32)), .val (.int (1 : Int32)), .val (.int (1 : Int32)), .val (.int (1 : Int32)), .val (.int (1 : Int32))] [(.int (1 : Int32))])) _
                  refine XS.ifNo Xf3.here hx rfl (hb hby at_380) rfl ((if0 _ _).trans (feq ((by decide) : ¬ ((1 : Int32) = (0 : Int32)))).1) ?_
                  show Steps p.tables e below (Tf3.setTop (mkF m 383 #[.val (.int p1), .val (.int p2), .val (.int p3), .val (.int p4), .val (.int p5), .val (.ref b12), .val (.ref b25), .val (.ref b79), .val (.int (own_ix i0)), .val (.int (own_ix i1)), .val (.int (own_ix i2)), .val (.int (own_ix i3)), .val (.int (own_ix i4)), .val (.int (own_ix i5)), .val (.int (3 : Int32)), .val (.int (1 : Int32)), .val (.int (1 : Int32)), .val (.int (1 : Int32)), .val (.int (1 : Int32))] [])) _
                  refine XS.iload Xf3.here hx rfl (hb hby at_383) rfl ?_
                  show Steps p.tables e below (Tf3.setTop (mkF m 385 #[.val (.int p1), .val (.int p2), .val (.int p3), .val (.int p4), .val (.int p5), .val (.ref b12), .val (.ref b25), .val (.ref b79), .val (.int (own_ix i0)), .val (.int (own_ix i1)), .val (.int (own_ix i2)), .val (.int (own_ix i3)), .val (.int (own_ix i4)), .val (.int (own_ix i5)), .val (.int (3 : Int32)), .val (.int (1 : Int32)), .val (.int (1 : Int32)), .val (.int (1 : Int32)), .val (.int (1 : Int32))] [(.int (1 : Int32))])) _
                  refine XS.ifNo Xf3.here hx rfl (hb hby at_385) rfl ((if0 _ _).trans (feq ((by decide) : ¬ ((1 : Int32) = (0 : Int32)))).1) ?_
                  show Steps p.tables e below (Tf3.setTop (mkF m 388 #[.val (.int p1), .val (.int p2), .val (.int p3), .val (.int p4), .val (.int p5), .val (.ref b12), .val (.ref b25), .val (.ref b79), .val (.int (own_ix i0)), .val (.int (own_ix i1)), .val (.int (own_ix i2)), .val (.int (own_ix i3)), .val (.int (own_ix i4)), .val (.int (own_ix i5)), .val (.int (3 : Int32)), .val (.int (1 : Int32)), .val (.int (1 : Int32)), .val (.int (1 : Int32)), .val (.int (1 : Int32))] [])) _
                  refine XS.iload Xf3.here hx rfl (hb hby at_388) rfl ?_
                  show Steps p.tables e below (Tf3.setTop (mkF m 390 #[.val (.int p1), .val (.int p2), .val (.int p3), .val (.int p4), .val (.int p5), .val (.ref b12), .val (.ref b25), .val (.ref b79), .val (.int (own_ix i0)), .val (.int (own_ix i1)), .val (.int (own_ix i2)), .val (.int (own_ix i3)), .val (.int (own_ix i4)), .val (.int (own_ix i5)), .val (.int (3 : Int32)), .val (.int (1 : Int32)), .val (.int (1 : Int32)), .val (.int (1 : Int32)), .val (.int (1 : Int32))] [(.int (1 : Int32))])) _
                  refine XS.ifNo Xf3.here hx rfl (hb hby at_390) rfl ((if0 _ _).trans (feq ((by decide) : ¬ ((1 : Int32) = (0 : Int32)))).1) ?_
                  show Steps p.tables e below (Tf3.setTop (mkF m 393 #[.val (.int p1), .val (.int p2), .val (.int p3), .val (.int p4), .val (.int p5), .val (.ref b12), .val (.ref b25), .val (.ref b79), .val (.int (own_ix i0)), .val (.int (own_ix i1)), .val (.int (own_ix i2)), .val (.int (own_ix i3)), .val (.int (own_ix i4)), .val (.int (own_ix i5)), .val (.int (3 : Int32)), .val (.int (1 : Int32)), .val (.int (1 : Int32)), .val (.int (1 : Int32)), .val (.int (1 : Int32))] [])) _
                  refine XS.iload Xf3.here hx rfl (hb hby at_393) rfl ?_
                  show Steps p.tables e below (Tf3.setTop (mkF m 395 #[.val (.int p1), .val (.int p2), .val (.int p3), .val (.int p4), .val (.int p5), .val (.ref b12), .val (.ref b25), .val (.ref b79), .val (.int (own_ix i0)), .val (.int (own_ix i1)), .val (.int (own_ix i2)), .val (.int (own_ix i3)), .val (.int (own_ix i4)), .val (.int (own_ix i5)), .val (.int (3 : Int32)), .val (.int (1 : Int32)), .val (.int (1 : Int32)), .val (.int (1 : Int32)), .val (.int (1 : Int32))] [(.int (1 : Int32))])) _
                  refine XS.ifNo Xf3.here hx rfl (hb hby at_395) rfl ((if0 _ _).trans (feq ((by decide) : ¬ ((1 : Int32) = (0 : Int32)))).1) ?_
                  show Steps p.tables e below (Tf3.setTop (mkF m 398 #[.val (.int p1), .val (.int p2), .val (.int p3), .val (.int p4), .val (.int p5), .val (.ref b12), .val (.ref b25), .val (.ref b79), .val (.int (own_ix i0)), .val (.int (own_ix i1)), .val (.int (own_ix i2)), .val (.int (own_ix i3)), .val (.int (own_ix i4)), .val (.int (own_ix i5)), .val (.int (3 : Int32)), .val (.int (1 : Int32)), .val (.int (1 : Int32)), .val (.int (1 : Int32)), .val (.int (1 : Int32))] [])) _
                  refine XS.iconst Xf3.here hx rfl (hb hby at_398) ?_
                  show Steps p.tables e below (Tf3.setTop (mkF m 399 #[.val (.int p1), .val (.int p2), .val (.int p3), .val (.int p4), .val (.int p5), .val (.ref b12), .val (.ref b25), .val (.ref b79), .val (.int (own_ix i0)), .val (.int (own_ix i1)), .val (.int (own_ix i2)), .val (.int (own_ix i3)), .val (.int (own_ix i4)), .val (.int (own_ix i5)), .val (.int (3 : Int32)), .val (.int (1 : Int32)), .val (.int (1 : Int32)), .val (.int (1 : Int32)), .val (.int (1 : Int32))] [(.int (1 : Int32))])) _
                  refine XS.goto Xf3.here hx rfl (pc0 := 399) (pc' := 403) rfl (hb hby at_399) (by decide) (by decide) ?_
                  show Steps p.tables e below (Tf3.setTop (mkF m 403 #[.val (.int p1), .val (.int p2), .val (.int p3), .val (.int p4), .val (.int p5), .val (.ref b12), .val (.ref b25), .val (.ref b79), .val (.int (own_ix i0)), .val (.int (own_ix i1)), .val (.int (own_ix i2)), .val (.int (own_ix i3)), .val (.int (own_ix i4)), .val (.int (own_ix i5)), .val (.int (3 : Int32)), .val (.int (1 : Int32)), .val (.int (1 : Int32)), .val (.int (1 : Int32)), .val (.int (1 : Int32))] [(.int (1 : Int32))])) _
                  exact retN Xf3 hx (t := .boolean) Bd.returns (by simp) (hb hby at_403) hr
                · show Qrm0 Z p1 p2 p3 p4 p5 h0 n0 _ Tf3.heap _
                  exact ⟨rfl, Nf3⟩
set_option maxRecDepth 65536 in
set_option maxHeartbeats 40000000 in
theorem comes_1 {Post : Tables → Env → Array Value → State → Outcome → State → Prop} (hpost : ∀ tb e args s v u, (limb_1_1.after args s (.returned v) u = true ∧ limb_1_2.after args s (.returned v) u = true ∧ True) → FrameEnd s (.returned v) u (Jvm.fieldLocs frame_1_writes args s ++ Jvm.arrayLocs frame_1_arrays args s ++ Jvm.staticLocs frame_1_statics s) 24 128 → Post tb e args s (.returned v) u) :
    ArmFor flags0 classFile x code maxLocals ret World_1 tables_1 room_1 Calls_1 rest_1 Pre_1 Post := by
  intro l hfl _ _ p e ha hc hk s m args below hf hA hF happ hP
  obtain ⟨hcalls, hrest, hpre⟩ := hP
  obtain ⟨-, -, -, hnamed, -, -, -, hat⟩ := (Spec.applies_iff hf).mp happ
  obtain ⟨hg, hn⟩ := and_e (Cond.before_iff.mp (show (Jvm.Cond.and given_1 narrow_1).before args s = true from hpre))
  obtain ⟨u0, u1⟩ := and_e hg
  obtain ⟨u2, u3⟩ := and_e u1
  obtain ⟨u4, u5⟩ := and_e u3
  obtain ⟨u6, u7⟩ := and_e u5
  obtain ⟨u8, u9⟩ := and_e u7
  obtain ⟨w0, w1, w2, w3, w4, rfl⟩ : ∃ w0 w1 w2 w3 w4 : Value, args = #[w0, w1, w2, w3, w4] := by
    have hs : args.size = 5 := by simpa [Cond.value, given_1] using u0
    obtain ⟨L⟩ := args
    match L, hs with
    | [w0, w1, w2, w3, w4], _ => exact ⟨w0, w1, w2, w3, w4, rfl⟩
  have hw := fun d (hd : d ∈ tables_1) => atoms_spec (ws := Jvm.Cond.code x code maxLocals ret :: tables_1) hat d (List.mem_cons_of_mem _ hd)
  have hfit : Fit s := fun {y c} hc i hi => by
    obtain ⟨ha, rfl⟩ := Array.getElem?_eq_some_iff.mp hc
    have q := List.all_eq_true.mp ((Array.all_eq_true_iff_forall_mem.mp hF) _ (Array.getElem_mem ha)) i (List.mem_range.mpr hi)
    simpa [Array.getElem?_eq_getElem hi] using q
  obtain ⟨i0, ei0⟩ := is_v u2
  obtain rfl : w0 = (.int i0) := Option.some.inj ei0
  obtain ⟨i1, ei1⟩ := is_v u4
  obtain rfl : w1 = (.int i1) := Option.some.inj ei1
  obtain ⟨i2, ei2⟩ := is_v u6
  obtain rfl : w2 = (.int i2) := Option.some.inj ei2
  obtain ⟨i3, ei3⟩ := is_v u8
  obtain rfl : w3 = (.int i3) := Option.some.inj ei3
  obtain ⟨i4, ei4⟩ := is_v u9
  obtain rfl : w4 = (.int i4) := Option.some.inj ei4
  obtain ⟨n, o, h1, h2, h3, _, L, rfl, ⟨rfl, N⟩, hq⟩ := rm0 l s _ hw tables_1 i0 i1 i2 i3 i4 s.heap s.heap.size (Old.start s)  p e ha hc hk s m _ below hf ((Spec.applies_iff_loose hf).mp happ).1 ⟨rfl, State.Warmed39.refl s, rfl⟩ trivial
  refine ⟨n, _, h1, h2, h3, hpost _ _ _ _ _ _ ⟨Cond.after_iff.mpr rfl, Cond.after_iff.mpr (eq_i res_at (Term.int_eval (1)) rfl), trivial⟩ ⟨hq.1, hq.2.1, (hq.2.2.sift fun y hy => Or.inr (N y hy)).mono (by decide) (by decide)⟩⟩
theorem main_1_1 : Claimed_1_1 := comes_1 fun _ _ _ _ _ _ h hF => ⟨h.1, hF⟩
theorem main_1_2 : Claimed_1_2 := comes_1 fun _ _ _ _ _ _ h hF => ⟨h.2.1, hF⟩
end Jvm.Pilot.@@N@@
namespace Jvm.Pilot.@@N@@
open Jvm Jvm.ClassFile Sem Op Lib Jvm.Free Jvm.Stand Jvm.Pilot.@@N@@.Jvm.D
/-! MADE BY PROGRAM (witnessworld.py) out of the Statement's table words and the real class files: 10 classes; the members and pool entries that the words name. The judged class is class 1, her method 1. -/
namespace start1
open Jvm.ClassFile
def u (s : String) : CpInfo := .utf8 (stringToUtf16 s)
/-- a pool by its gaps: so many unusable entries, then the entry; so many at the end -/
def gap : Nat → List CpInfo → List CpInfo
  | 0, r => r
  | n + 1, r => .unusable :: gap n r
def poolList (es : List (Nat × CpInfo)) (last : Nat) : List CpInfo := es.foldr (fun e r => gap e.1 (e.2 :: r)) (gap last [])
def pool (es : List (Nat × CpInfo)) (last : Nat) : Array CpInfo := ⟨poolList es last⟩
def fileOf (pool : Array CpInfo) (this : Nat) (attrs : Array Attribute := #[]) (ms : Array MethodInfo := #[]) (fl : Nat := 33) (sup : Nat := 0) (ifs : Array Nat := #[]) (fds : Array FieldInfo := #[]) : ClassFile where
  minorVersion := 0
  majorVersion := 65
  constantPool := pool
  accessFlags := fl
  thisClass := this
  superClass := sup
  interfaces := ifs
  fields := fds
  methods := ms
  attributes := attrs
def plain (name : String) (sup : Option ClassId) : Class where
  name := name
  kind := .ordinary
  loader := none
  accessFlags := 33
  super := sup
  interfaces := #[]
  cf := none
  fields := #[]
  methods := #[]
  instanceTypes := #[]
  staticTypes := #[]
  resolved := #[]
  callSites := []
  init := .initialized
  statics := none
  mirror := none

def pool0 : Array CpInfo := pool [(5, u "<init>"), (0, u "()V"), (1, .class_ 10), (1, u "java/lang/Object")] 113

def k0c0 : Code := { maxStack := 0, maxLocals := 1, code := object_method_1_code, exceptionTable := #[], attributes := #[] }
def k0m0 : Method := { name := "<init>", desc := "()V", sig := { parameters := [], returnType := none }, accessFlags := 1, code := some k0c0 }
/-- java/lang/Object -/
def k0 : Class := { plain "java/lang/Object" none with
  accessFlags := 33
  interfaces := #[]
  cf := some (fileOf pool0 8 #[] #[{ accessFlags := 1, nameIndex := 5, descriptorIndex := 6, attributes := #[] }] 33 0 #[] #[])
  fields := #[]
  methods := #[k0m0]
  instanceTypes := #[]
  staticTypes := #[]
  resolved := Array.replicate 124 none
  statics := none }

def pool1 : Array CpInfo := pool [(2, .class_ 4), (1, u "java/lang/Object"), (0, u "<init>"), (0, u "()V"), (0, .class_ 8), (0, u "com/example/pentad/pentad/tx/TempId"), (0, .methodref 7 10), (0, .nameAndType 5 11), (0, u "(I)V"), (0, .methodref 7 13), (0, .nameAndType 14 15), (0, u "unite"), (0, u "(Lcom/example/pentad/pentad/tx/TempId;)V"), (0, .methodref 17 18), (0, .class_ 19), (0, .nameAndType 20 21), (0, u "com/example/pentad/pentad/tx/TempIdRootPinLaw"), (0, u "join"), (0, u "([III)V"), (0, .methodref 7 23), (0, .nameAndType 24 25), (0, u "root"), (0, u "()Lcom/example/pentad/pentad/tx/TempId;"), (0, .methodref 17 27), (0, .nameAndType 28 29), (0, u "expected"), (0, u "([I[II)I"), (2, u "law"), (0, u "(IIIII)Z")] 7

def k1m0 : Method := { name := "<init>", desc := "()V", sig := { parameters := [], returnType := none }, accessFlags := 1, code := none }
def k1c1 : Code := { maxStack := 6, maxLocals := 19, code := code, exceptionTable := #[], attributes := #[] }
def k1m1 : Method := { name := "law", desc := "(IIIII)Z", sig := { parameters := [.int, .int, .int, .int, .int], returnType := some .boolean }, accessFlags := 9, code := some k1c1 }
def k1c2 : Code := { maxStack := 3, maxLocals := 5, code := method_3_code, exceptionTable := #[], attributes := #[] }
def k1m2 : Method := { name := "join", desc := "([III)V", sig := { parameters := [(.array .int), .int, .int], returnType := none }, accessFlags := 10, code := some k1c2 }
def k1c3 : Code := { maxStack := 3, maxLocals := 4, code := method_4_code, exceptionTable := #[], attributes := #[] }
def k1m3 : Method := { name := "expected", desc := "([I[II)I", sig := { parameters := [(.array .int), (.array .int), .int], returnType := some .int }, accessFlags := 10, code := some k1c3 }
/-- com/example/pentad/pentad/tx/TempIdRootPinLaw -/
def k1 : Class := { plain "com/example/pentad/pentad/tx/TempIdRootPinLaw" (some 0) with
  accessFlags := 49
  interfaces := #[]
  cf := some (fileOf pool1 17 #[] #[{ accessFlags := 1, nameIndex := 5, descriptorIndex := 6, attributes := #[] }, { accessFlags := 9, nameIndex := 32, descriptorIndex := 33, attributes := #[] }, { accessFlags := 10, nameIndex := 20, descriptorIndex := 21, attributes := #[] }, { accessFlags := 10, nameIndex := 28, descriptorIndex := 29, attributes := #[] }] 49 2 #[] #[])
  fields := #[]
  methods := #[k1m0, k1m1, k1m2, k1m3]
  instanceTypes := #[]
  staticTypes := #[]
  resolved := Array.replicate 41 none
  statics := none }

def pool2 : Array CpInfo := pool [(1, .methodref 2 3), (0, .class_ 4), (0, .nameAndType 5 6), (0, u "java/lang/Object"), (0, u "<init>"), (0, u "()V"), (0, .fieldref 8 9), (0, .class_ 10), (0, .nameAndType 11 12), (0, u "com/example/pentad/pentad/tx/TempId"), (0, u "parent"), (0, u "Lcom/example/pentad/pentad/tx/TempId;"), (0, .fieldref 8 14), (0, .nameAndType 15 16), (0, u "order"), (0, u "I"), (0, .methodref 8 18), (0, .nameAndType 19 20), (0, u "root"), (0, u "()Lcom/example/pentad/pentad/tx/TempId;"), (2, u "id"), (0, u "Ljava/lang/Long;"), (13, u "(I)V"), (3, u "unite"), (0, u "(Lcom/example/pentad/pentad/tx/TempId;)V")] 8

def k2c0 : Code := { maxStack := 2, maxLocals := 2, code := prog_90_method_1_code, exceptionTable := #[], attributes := #[] }
def k2m0 : Method := { name := "<init>", desc := "(I)V", sig := { parameters := [.int], returnType := none }, accessFlags := 0, code := some k2c0 }
def k2c1 : Code := { maxStack := 2, maxLocals := 2, code := prog_90_method_2_code, exceptionTable := #[], attributes := #[] }
def k2m1 : Method := { name := "root", desc := "()Lcom/example/pentad/pentad/tx/TempId;", sig := { parameters := [], returnType := some (.object "com/example/pentad/pentad/tx/TempId") }, accessFlags := 0, code := some k2c1 }
def k2c2 : Code := { maxStack := 2, maxLocals := 4, code := prog_90_method_3_code, exceptionTable := #[], attributes := #[] }
def k2m2 : Method := { name := "unite", desc := "(Lcom/example/pentad/pentad/tx/TempId;)V", sig := { parameters := [(.object "com/example/pentad/pentad/tx/TempId")], returnType := none }, accessFlags := 0, code := some k2c2 }
/-- com/example/pentad/pentad/tx/TempId -/
def k2 : Class := { plain "com/example/pentad/pentad/tx/TempId" (some 0) with
  accessFlags := 32
  interfaces := #[]
  cf := some (fileOf pool2 8 #[] #[{ accessFlags := 0, nameIndex := 5, descriptorIndex := 38, attributes := #[] }, { accessFlags := 0, nameIndex := 19, descriptorIndex := 20, attributes := #[] }, { accessFlags := 0, nameIndex := 42, descriptorIndex := 43, attributes := #[] }] 32 2 #[] #[{ accessFlags := 18, nameIndex := 15, descriptorIndex := 16, attributes := #[] }, { accessFlags := 2, nameIndex := 11, descriptorIndex := 12, attributes := #[] }, { accessFlags := 2, nameIndex := 23, descriptorIndex := 24, attributes := #[] }])
  fields := #[{ name := "order", type := .int, accessFlags := 18, slot := 0, constantValue := 0 }, { name := "parent", type := (.object "com/example/pentad/pentad/tx/TempId"), accessFlags := 2, slot := 1, constantValue := 0 }, { name := "id", type := (.object "java/lang/Long"), accessFlags := 2, slot := 2, constantValue := 0 }]
  methods := #[k2m0, k2m1, k2m2]
  instanceTypes := #[.int, (.object "com/example/pentad/pentad/tx/TempId"), (.object "java/lang/Long")]
  staticTypes := #[]
  resolved := Array.replicate 52 none
  statics := none }

def pool3 : Array CpInfo := pool [(1, u "java/lang/Cloneable"), (0, .class_ 1), (0, u "java/lang/Object"), (0, .class_ 3)] 3

/-- java/lang/Cloneable -/
def k3 : Class := { plain "java/lang/Cloneable" (some 0) with
  accessFlags := 1537
  interfaces := #[]
  cf := some (fileOf pool3 2 #[] #[] 1537 4 #[] #[])
  fields := #[]
  methods := #[]
  instanceTypes := #[]
  staticTypes := #[]
  resolved := Array.replicate 8 none
  statics := none }

def pool4 : Array CpInfo := pool [(1, u "java/io/Serializable"), (0, .class_ 1), (0, u "java/lang/Object"), (0, .class_ 3)] 3

/-- java/io/Serializable -/
def k4 : Class := { plain "java/io/Serializable" (some 0) with
  accessFlags := 1537
  interfaces := #[]
  cf := some (fileOf pool4 2 #[] #[] 1537 4 #[] #[])
  fields := #[]
  methods := #[]
  instanceTypes := #[]
  staticTypes := #[]
  resolved := Array.replicate 8 none
  statics := none }

/-- the primitive byte -/
def k5 : Class := { plain "byte" none with kind := .primitive 'B', accessFlags := 0x411 }
/-- [B -/
def k6 : Class := { plain "[B" (some 0) with kind := .array 5 .byte, interfaces := #[3, 4], accessFlags := 1041 }

/-- the primitive int -/
def k7 : Class := { plain "int" none with kind := .primitive 'I', accessFlags := 0x411 }
/-- [I -/
def k8 : Class := { plain "[I" (some 0) with kind := .array 7 .int, interfaces := #[3, 4], accessFlags := 1041 }

/-- [Lcom/example/pentad/pentad/tx/TempId; -/
def k9 : Class := { plain "[Lcom/example/pentad/pentad/tx/TempId;" (some 0) with kind := .array 2 (.object "com/example/pentad/pentad/tx/TempId"), interfaces := #[3, 4], accessFlags := 1041 }

def heap : Heap := #[]
def classes : Array Class := #[k0, k1, k2, k3, k4, k5, k6, k7, k8, k9]
def interned : List (Array UInt16 × Addr) := []
def slotsUsed : Nat := 0
def theMethod : MethodId := ⟨1, 1⟩
def args0 : Array Value := #[.int 1, .int 2, .int 3, .int 4, .int 5]
def aboutOver (below : List Frame) : State where
  vm := { classes := classes, interned := interned.toArray }
  heap := heap
  slotsUsed := slotsUsed
  threads := #[{ frames := .invoking theMethod args0 :: below }]
def below0 : List Frame := [.native { method := ⟨0, 0⟩, args := #[] }]
def about1 : State := aboutOver below0
def p0 : Program := .bare "" "" ""
def e0 : Env := launch0.env 0 0 0
theorem w_frames : about1.frames = Frame.invoking theMethod args0 :: below0 := rfl
set_option maxRecDepth 65536 in
theorem w_args : argsFit about1.vm theMethod args0 = true := by decide +kernel
set_option maxRecDepth 65536 in
theorem w_heap : heapFits about1 = true := by decide +kernel
set_option maxRecDepth 65536 in
theorem w_runnable : about1.curStatus? = some .runnable := by decide +kernel
set_option maxRecDepth 65536 in
theorem w_alone : about1.alone = true := by decide +kernel
set_option maxRecDepth 65536 in
theorem w_named : about1.methodNamed? x = some theMethod := by decide +kernel
set_option maxRecDepth 65536 in
theorem w_hears : about1.hears theMethod below0 = true := by decide +kernel
set_option maxRecDepth 65536 in
theorem w_ripe : about1.ripe theMethod args0 below0 = true := by decide +kernel
theorem w_running : about1.status = .running := rfl
set_option maxRecDepth 65536 in
theorem w_room : about1.hasRoom e0.platform room_1 = true :=
  launch0.hasRoom_least _ room_1 (by decide +kernel) (by decide +kernel) (by decide +kernel) (by decide +kernel) (by decide +kernel) (by decide +kernel)
theorem allAtoms_all (ts : List Jvm.Cond) (a : Array Jvm.Value) (st : Jvm.State) : (allAtoms ts).before a st = ts.all (fun c => c.before a st) := by
  induction ts with
  | nil => rfl
  | cons c t ih =>
    show (Jvm.Cond.and c (allAtoms t)).before a st = _
    rw [Jvm.Cond.before_and, ih, List.all_cons]
def words1 : List Jvm.Cond := Jvm.Cond.code x code maxLocals ret :: tables_1
/-- a 'code' word, met by the world's own term for the bytes: nothing is compared byte by byte -/
theorem code_word {y : MethodName} {bytes : ByteArray} {mx : Nat} {rt : Option FieldType} {a : Array Value} {s : State} {m : MethodId} {meth : Method} {c : Code} (h1 : s.methodNamed? y = some m) (h2 : s.vm.method? m = some meth) (h3 : meth.code = some c) (h4 : c.code = bytes)
    (h5 : (c.maxLocals == mx && c.exceptionTable.isEmpty && decide (c.maxStack ≤ mostOperands) && decide (meth.sig.returnType = rt) && !meth.locks && decide (parseMethodDescriptor y.desc = some meth.sig)) = true) : (Jvm.Cond.code y bytes mx rt).before a s = true := by
  simp only [Bool.and_eq_true, beq_iff_eq, Bool.not_eq_true', decide_eq_true_eq] at h5
  obtain ⟨⟨⟨⟨⟨g1, g2⟩, g3⟩, g4⟩, g5⟩, g6⟩ := h5
  simp [Cond.before, Cond.holds, Cond.value, h1, h2, h3, h4, g1, g2, g3, g4, g5, g6]
def isCode : Jvm.Cond → Bool
  | .code _ _ _ _ => true
  | _ => false
theorem all_split {L : List Jvm.Cond} {P : Jvm.Cond → Bool} (h1 : L.all (fun c => isCode c || P c) = true) (h2 : ∀ c ∈ L.filter isCode, P c = true) : L.all P = true := by
  refine List.all_eq_true.mpr fun c hc => ?_
  have h := List.all_eq_true.mp h1 c hc
  rcases Bool.eq_false_or_eq_true (isCode c) with hi | hi
  · exact h2 c (List.mem_filter.mpr ⟨hc, hi⟩)
  · simpa [hi] using h
set_option maxRecDepth 65536 in
theorem w_c0 : (Jvm.Cond.code x code maxLocals ret).before args0 about1 = true := code_word (m := ⟨1, 1⟩) (meth := k1m1) (c := k1c1) (by decide +kernel) rfl rfl rfl (by decide +kernel)
set_option maxRecDepth 65536 in
theorem w_c1 : (Jvm.Cond.code ({ cls := "com/example/pentad/pentad/tx/TempId", name := "<init>", desc := "(I)V" } : Jvm.MethodName) prog_90_method_1_code (2 : Nat) (Option.none : Option Jvm.ClassFile.FieldType)).before args0 about1 = true := code_word (m := ⟨2, 0⟩) (meth := k2m0) (c := k2c0) (by decide +kernel) rfl rfl rfl (by decide +kernel)
set_option maxRecDepth 65536 in
theorem w_c2 : (Jvm.Cond.code ({ cls := "java/lang/Object", name := "<init>", desc := "()V" } : Jvm.MethodName) object_method_1_code (1 : Nat) (Option.none : Option Jvm.ClassFile.FieldType)).before args0 about1 = true := code_word (m := ⟨0, 0⟩) (meth := k0m0) (c := k0c0) (by decide +kernel) rfl rfl rfl (by decide +kernel)
set_option maxRecDepth 65536 in
theorem w_c3 : (Jvm.Cond.code ({ cls := "com/example/pentad/pentad/tx/TempId", name := "root", desc := "()Lcom/example/pentad/pentad/tx/TempId;" } : Jvm.MethodName) prog_90_method_2_code (2 : Nat) (Option.some (Jvm.ClassFile.FieldType.object "com/example/pentad/pentad/tx/TempId"))).before args0 about1 = true := code_word (m := ⟨2, 1⟩) (meth := k2m1) (c := k2c1) (by decide +kernel) rfl rfl rfl (by decide +kernel)
set_option maxRecDepth 65536 in
theorem w_c4 : (Jvm.Cond.code ({ cls := "com/example/pentad/pentad/tx/TempIdRootPinLaw", name := "expected", desc := "([I[II)I" } : Jvm.MethodName) method_4_code (4 : Nat) (Option.some Jvm.ClassFile.FieldType.int)).before args0 about1 = true := code_word (m := ⟨1, 3⟩) (meth := k1m3) (c := k1c3) (by decide +kernel) rfl rfl rfl (by decide +kernel)
set_option maxRecDepth 65536 in
theorem w_c5 : (Jvm.Cond.code ({ cls := "com/example/pentad/pentad/tx/TempId", name := "unite", desc := "(Lcom/example/pentad/pentad/tx/TempId;)V" } : Jvm.MethodName) prog_90_method_3_code (4 : Nat) (Option.none : Option Jvm.ClassFile.FieldType)).before args0 about1 = true := code_word (m := ⟨2, 2⟩) (meth := k2m2) (c := k2c2) (by decide +kernel) rfl rfl rfl (by decide +kernel)
set_option maxRecDepth 65536 in
theorem w_c6 : (Jvm.Cond.code ({ cls := "com/example/pentad/pentad/tx/TempIdRootPinLaw", name := "join", desc := "([III)V" } : Jvm.MethodName) method_3_code (5 : Nat) (Option.none : Option Jvm.ClassFile.FieldType)).before args0 about1 = true := code_word (m := ⟨1, 2⟩) (meth := k1m2) (c := k1c2) (by decide +kernel) rfl rfl rfl (by decide +kernel)
def codes1 : List Jvm.Cond := [Jvm.Cond.code x code maxLocals ret, Jvm.Cond.code ({ cls := "com/example/pentad/pentad/tx/TempId", name := "<init>", desc := "(I)V" } : Jvm.MethodName) prog_90_method_1_code (2 : Nat) (Option.none : Option Jvm.ClassFile.FieldType), Jvm.Cond.code ({ cls := "java/lang/Object", name := "<init>", desc := "()V" } : Jvm.MethodName) object_method_1_code (1 : Nat) (Option.none : Option Jvm.ClassFile.FieldType), Jvm.Cond.code ({ cls := "com/example/pentad/pentad/tx/TempId", name := "root", desc := "()Lcom/example/pentad/pentad/tx/TempId;" } : Jvm.MethodName) prog_90_method_2_code (2 : Nat) (Option.some (Jvm.ClassFile.FieldType.object "com/example/pentad/pentad/tx/TempId")), Jvm.Cond.code ({ cls := "com/example/pentad/pentad/tx/TempIdRootPinLaw", name := "expected", desc := "([I[II)I" } : Jvm.MethodName) method_4_code (4 : Nat) (Option.some Jvm.ClassFile.FieldType.int), Jvm.Cond.code ({ cls := "com/example/pentad/pentad/tx/TempId", name := "unite", desc := "(Lcom/example/pentad/pentad/tx/TempId;)V" } : Jvm.MethodName) prog_90_method_3_code (4 : Nat) (Option.none : Option Jvm.ClassFile.FieldType), Jvm.Cond.code ({ cls := "com/example/pentad/pentad/tx/TempIdRootPinLaw", name := "join", desc := "([III)V" } : Jvm.MethodName) method_3_code (5 : Nat) (Option.none : Option Jvm.ClassFile.FieldType)]
set_option maxRecDepth 65536 in
theorem codes_eq : words1.filter isCode = codes1 := rfl
theorem w_codes : ∀ c ∈ words1.filter isCode, c.before args0 about1 = true := by
  rw [codes_eq]
  intro c hc
  simp only [codes1, List.mem_cons, List.not_mem_nil, or_false] at hc
  rcases hc with rfl | rfl | rfl | rfl | rfl | rfl | rfl
  · exact w_c0
  · exact w_c1
  · exact w_c2
  · exact w_c3
  · exact w_c4
  · exact w_c5
  · exact w_c6
set_option maxRecDepth 65536 in
theorem w_t1 : (words1.take 24).all (fun c => isCode c || c.before args0 about1) = true := by decide +kernel
set_option maxRecDepth 65536 in
theorem w_t2 : (words1.drop 24).all (fun c => isCode c || c.before args0 about1) = true := by decide +kernel
theorem w_tables : (allAtoms (Jvm.Cond.code x code maxLocals ret :: tables_1)).before args0 about1 = true := by
  rw [allAtoms_all]
  show words1.all (fun c => c.before args0 about1) = true
  refine all_split ?_ w_codes
  rw [← List.take_append_drop 24 words1, List.all_append, w_t1, w_t2]
  rfl
set_option maxRecDepth 65536 in
theorem w_case : (Jvm.Cond.and given_1 narrow_1).before args0 about1 = true := by decide +kernel
theorem w_applies : (headSpec (Jvm.Cond.code x code maxLocals ret :: tables_1) room_1).applies x e0.platform about1 = true :=
  (Spec.applies_iff w_frames).mpr ⟨w_running, w_runnable, w_alone, w_named, w_hears, w_ripe, w_room, w_tables⟩
theorem atStart : AtStart classFile x code maxLocals ret World_1 tables_1 room_1 Calls_1 rest_1 Pre_1 launch0 p0 e0 about1 theMethod args0 below0 :=
  ⟨lists_1, trivial, launch0.admits_env _ _ _, launch0.least_env, fairChoices_fair.cas, fairChoices_fair.clock, w_frames, w_args, w_heap, w_applies, trivial, trivial, w_case⟩
end start1
theorem witness_1 : WitnessClaimed_1 := ⟨start1.p0, start1.e0, start1.about1, start1.theMethod, start1.args0, start1.below0, start1.atStart⟩
end Jvm.Pilot.@@N@@
