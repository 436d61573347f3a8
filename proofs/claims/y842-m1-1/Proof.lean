import JvmDerived
import JvmDerived.Pilot.@@N@@Statement
import JvmDerived.Pilot.@@N@@Code
set_option linter.unusedVariables false
set_option linter.unusedSimpArgs false
namespace Jvm.RoadKit
open Sem ClassFile Op Lib Jvm.Stand Jvm.Free Jvm.LawKit
section New
variable {p : Program} {l : Launch} {e : Env} {R : Room} {s : State} {m : MethodId} {args : Array Value} {below : List Frame} {meth : Method} {c : Code} {T : State} {locs : List Loc} {cells slots : Nat}
theorem retI (X : Stand p l e R s m args below meth c T locs cells slots) (hx : p.tables.exec = Jvm.exec) {pc : Nat} {Ls : Array Slot} {z : Int32} {rest : List Value} (hret : meth.sig.returnType = some .int) (hd : decode c.code pc = .ok (.ireturn, 1)) {fs : List Frame}
    (hl : ∀ (f : JFrame) (acts : List Action), f.method = m → f.locked = none → f.entered = [] → (doReturn e (T.setTop f) acts (some (.int z))).1 = T.setFrames fs) : Steps p.tables e below (T.setTop (mkF m pc Ls (.int z :: rest))) (T.setFrames fs) := by
  have hm' : T.vm.method? m = some meth := X.method'
  have hn : narrow .int (.int z) = .int z := rfl
  show Steps p.tables e below (T.setTop { method := m, pc := pc, locals := Ls, stack := _ :: rest, locked := none }) _
  jvm_step X.here [X.here.top, hx, hd, hm', hret, hn]
  first | (intro acts; rw [hl _ acts rfl rfl rfl]) | rw [hl _ _ rfl rfl rfl]
  exact Steps.refl _
end New
end Jvm.RoadKit
namespace Jvm.Pilot.@@N@@
open Jvm Jvm.ClassFile Sem Op Lib Jvm.Free Jvm.Stand Jvm.LawKit Jvm.RoadKit Bundle Jvm.Pilot.@@N@@.Jvm.D
abbrev own_Go (p : Program) (e : Env) (below : List Frame) (A B : State) : Prop := ∀ t, Steps p.tables e below B t → Steps p.tables e below A t
theorem own_from {p : Program} {e : Env} {below : List Frame} {A B t : State} (h : A = B) (k : Steps p.tables e below A t) : Steps p.tables e below B t := h ▸ k
theorem own_ite1 {P : Prop} [Decidable P] (h : P) : ¬ ((if P then (1 : Int32) else (0 : Int32)) = (0 : Int32)) := by rw [if_pos h]; decide
theorem own_ite0 {P : Prop} [Decidable P] (h : ¬ P) : (if P then (1 : Int32) else (0 : Int32)) = (0 : Int32) := if_neg h
def own_Pl (h : Heap) (a : Addr) : Prop := ∃ c : Cell, h[a]? = some c ∧ c.vm.isStatics = false
theorem own_plE {Z : State} {h : Heap} {a : Addr} {C : String} (F : Exa Z h a C) : own_Pl h a := by obtain ⟨cell, k, h1, _, _, h4, _⟩ := F; exact ⟨cell, h1, h4⟩
theorem own_plF {Z : State} {h : Heap} {a : Addr} {C n d : String} {v : Value} (F : Fld Z h a C n d v) : own_Pl h a := by obtain ⟨cell, cf, k, i, f, h1, _, _, _, h5, _⟩ := F; exact ⟨cell, h1, h5⟩
theorem own_plA {Z : State} {h : Heap} {a : Addr} {k : ClassId} {ty : FieldType} {n : Int32} {vs : List Value} {d : Value} (F : Arv Z h a k ty n vs d) : own_Pl h a := by obtain ⟨c, A, _⟩ := F; exact ⟨c, A.1, A.plain⟩
theorem own_staK {Z : State} {h h' : Heap} {C n d : String} {v : Value} {ws : List Addr} (F : Sta Z h C n d v) (K : Keep h h' ws) (q : ∀ x ∈ ws, own_Pl h x) : Sta Z h' C n d v := by
  obtain ⟨cf, i, k, f, st, cell, h1, h2, h3, h4, h5, h6, h7⟩ := F
  refine ⟨cf, i, k, f, st, cell, h1, h2, h3, h4, K.2.1 st cell h5 fun z => ?_, h6, h7⟩
  obtain ⟨c, q1, q2⟩ := q st z
  cases h5.symm.trans q1
  rw [h6] at q2; cases q2
theorem own_insK {Z : State} {h h' : Heap} {a : Addr} {C : String} {bo : Bool} {ws : List Addr} (F : Ins Z h a C bo) (K : Keep h h' ws) : Ins Z h' a C bo := by
  obtain ⟨cell, cT, h1, h2, h3⟩ := F
  obtain ⟨c', q1, q2, q3, q4⟩ := K.2.2 a cell h1
  exact ⟨c', cT, q1, h2, by rw [q2, q3]; exact h3⟩
theorem own_atI {c : Cell} {vs : List Value} {d : Value} {ty : FieldType} {j : Int32} (H : Has c vs d) (G : ∀ i, i < c.slots.size → fits ty (vs.getD i d) = true) (q : ¬ (j < 0 ∨ c.slots.size ≤ j.toNatClampNeg)) (ht : ty = .int ∨ ty = .boolean ∨ ty = .byte ∨ ty = .char ∨ ty = .short) : ∃ z, c.slots[j.toNatClampNeg]? = some (.int z) := by
  have hlt := Nat.lt_of_not_le fun y => q (Or.inr y)
  obtain ⟨z, hz⟩ := fit_I (G _ hlt) ht
  exact ⟨z, by rw [H _ hlt, hz]⟩
theorem own_cat {v : Value} (h : v.isRef = true) : v.category = 1 := by cases v <;> simp [Value.isRef, Value.category] at h ⊢
theorem own_wS {Z : State} {a0 : Array Value} (hw : ∀ d ∈ tables_1, d.before a0 Z = true) : ∀ a ∈ Bundle.stringAtoms, a.before a0 Z = true := by
  intro a ha
  simp only [Bundle.stringAtoms, List.mem_cons, List.not_mem_nil, or_false] at ha
  rcases ha with rfl | rfl | rfl | rfl | rfl | rfl | rfl
  · exact (hw _ (List.mem_of_getElem? (i := 8) rfl))
  · exact (hw _ (List.mem_of_getElem? (i := 9) rfl))
  · exact (hw _ (List.mem_of_getElem? (i := 6) rfl))
  · exact (hw _ (List.mem_of_getElem? (i := 10) rfl))
  · exact (hw _ (List.mem_of_getElem? (i := 11) rfl))
  · exact (hw _ (List.mem_of_getElem? (i := 12) rfl))
  · exact (hw _ (List.mem_of_getElem? (i := 13) rfl))
theorem pn_3 : plainName "java/util/AbstractCollection" = true := by first | (simp [plainName, overriddenIn]; done) | decide +kernel
theorem d3_0 : decode jdk_22_method_1_code 0 = .ok (.aload_n 0, 1) := by decide +kernel
theorem d3_1 : decode jdk_22_method_1_code 1 = .ok (.invokespecial 1, 3) := by decide +kernel
theorem d3_4 : decode jdk_22_method_1_code 4 = .ok (.return_, 1) := by decide +kernel
theorem ef_3 (m : MethodId) (q3_0 : Addr) : entryFrame m #[(.ref q3_0)] 1 = mkF m 0 #[.val (.ref q3_0)] [] := by first | (simp [entryFrame, mkF, argsToLocals, Value.category]; done) | rfl
def Q3 (Z : State) (q3_0 : Addr) (h0 : Heap) (n0 : Nat) (v : Option Value) (h : Heap) (L : List Loc) : Prop := v = none ∧ Fr n0 L ∧ h = h0
set_option maxRecDepth 65536 in
set_option maxHeartbeats 40000000 in
theorem rm3 (l : Launch) (Z : State) (a0 : Array Value) (hw : ∀ d ∈ tables_1, d.before a0 Z = true) (ws : List Jvm.Cond) (q3_0 : Addr) (h0 : Heap) (n0 : Nat) (Z0 : n0 ≤ h0.size) :
    MetFree l (⟨"java/util/AbstractCollection", "<init>", "()V"⟩ : MethodName) (head1 (Jvm.Cond.code (⟨"java/util/AbstractCollection", "<init>", "()V"⟩ : MethodName) jdk_22_method_1_code 1 none :: ws) ({ frames := 1, cells := 0, slots := 0, locals := 12 } : Room)) (fun a U => a = #[(.ref q3_0)] ∧ Z.Warmed39 U.vm ∧ U.heap = h0) (fun _ _ _ _ _ => True) (fun _ U o U' => ∃ v L, o = .returned v ∧ Q3 Z q3_0 h0 n0 v U'.heap L ∧ FrameEnd U o U' L ({ frames := 1, cells := 0, slots := 0, locals := 12 } : Room).cells ({ frames := 1, cells := 0, slots := 0, locals := 12 } : Room).slots) := by
  refine MetFree.of_bodySF (plainFor_of_name pn_3) hisR ?_
  intro p e s m args below meth c s₁ Bd hml0 hP hK
  obtain ⟨rfl, hZ, hh⟩ := hP
  have hx := Bd.exec
  have hby := Bd.bytes
  have hml : c.maxLocals = 1 := hml0
  have hown : s.vm.findClass "java/util/AbstractCollection" = some m.cls := findClass_of_methodNamed Bd.named
  have hnm := (name_of_methodNamed Bd.named Bd.method).1
  have X0 : Stand p l e ({ frames := 1, cells := 0, slots := 0, locals := 12 } : Room) s m #[(.ref q3_0)] below meth c s₁ [] 0 0 := Stand.of_body Bd
  have e0 : s₁.heap = h0 := by rw [← hh, Bd.state]; rfl
  have N0 := Fr.nil n0
  obtain ⟨S0, hE0⟩ : ∃ z, z = s₁.setTop (entryFrame m #[(.ref q3_0)] 1) := ⟨_, rfl⟩
  have P0 : own_Go p e below S0 (s₁.setTop (mkF m 0 #[.val (.ref q3_0)] [])) := fun t k => by rw [hE0]; exact castTop (ef_3 m q3_0) k
  have P1 : own_Go p e below S0 (s₁.setTop (mkF m 1 #[.val (.ref q3_0)] [(.ref q3_0)])) := fun t k => P0 t (by
    show Steps p.tables e below (s₁.setTop (mkF m 0 #[.val (.ref q3_0)] [])) t
    refine XS.aloadN X0.here hx rfl (hb hby d3_0) rfl rfl ?_
    show Steps p.tables e below (s₁.setTop (mkF m 1 #[.val (.ref q3_0)] [(.ref q3_0)])) t
    exact k)
  obtain ⟨T2, X2, e2, st2⟩ := initO X0 hx hZ hown (hw _ (List.mem_of_getElem? (i := 32) rfl)) (hw _ (List.mem_of_getElem? (i := 33) rfl)) (hw _ (List.mem_of_getElem? (i := 34) rfl)) e0 (g := (mkF m 1 #[.val (.ref q3_0)] [(.ref q3_0)])) rfl (by rw [hml]; rfl) rfl (hb hby d3_1) (by decide) (W := 0) (by show 2 * 0 + _ ≤ _; exact Nat.le_of_eq rfl) (by decide)
  have P2 : own_Go p e below S0 (T2.setTop (mkF m 4 #[.val (.ref q3_0)] [])) := fun t k => P1 t (st2 _ k)
  obtain ⟨fs, hr, hrun, hended, hW, hsame⟩ := X2.leave (v := none) (fun _ => rfl)
  refine ⟨_, _, own_from hE0 (P2 _ ?_), hrun, hended, _, _, rfl, ?_, ⟨_, rfl⟩, hW, hsame.mono (by decide) (by decide)⟩
  · show Steps p.tables e below (T2.setTop (mkF m 4 #[.val (.ref q3_0)] [])) _
    exact X2.returnOut hx Bd.returns (hb hby d3_4) hr
  · show Q3 Z q3_0 h0 n0 _ T2.heap _
    rw [e2]
    exact ⟨rfl, N0, rfl⟩
theorem pd_0 : parseMethodDescriptor "()V" = some ⟨[], none⟩ := by decide +kernel
theorem pn_2 : plainName "java/util/AbstractList" = true := by first | (simp [plainName, overriddenIn]; done) | decide +kernel
theorem d2_0 : decode jdk_39_method_1_code 0 = .ok (.aload_n 0, 1) := by decide +kernel
theorem d2_1 : decode jdk_39_method_1_code 1 = .ok (.invokespecial 1, 3) := by decide +kernel
theorem d2_4 : decode jdk_39_method_1_code 4 = .ok (.aload_n 0, 1) := by decide +kernel
theorem d2_5 : decode jdk_39_method_1_code 5 = .ok (.iconst 0, 1) := by decide +kernel
theorem d2_6 : decode jdk_39_method_1_code 6 = .ok (.putfield 7, 3) := by decide +kernel
theorem d2_9 : decode jdk_39_method_1_code 9 = .ok (.return_, 1) := by decide +kernel
theorem ef_2 (m : MethodId) (q2_0 : Addr) : entryFrame m #[(.ref q2_0)] 1 = mkF m 0 #[.val (.ref q2_0)] [] := by first | (simp [entryFrame, mkF, argsToLocals, Value.category]; done) | rfl
def Q2 (Z : State) (q2_0 : Addr) (u2_q2_0_modCount : Value) (h0 : Heap) (n0 : Nat) (v : Option Value) (h : Heap) (L : List Loc) : Prop := v = none ∧ Fr n0 L ∧ Keep h0 h [q2_0] ∧ Fld Z h q2_0 "java/util/ArrayList" "elementData" "[Ljava/lang/Object;" .null ∧ Fld Z h q2_0 "java/util/AbstractList" "modCount" "I" (.int (0 : Int32))
set_option maxRecDepth 65536 in
set_option maxHeartbeats 40000000 in
theorem rm2 (l : Launch) (Z : State) (a0 : Array Value) (hw : ∀ d ∈ tables_1, d.before a0 Z = true) (ws : List Jvm.Cond) (q2_0 : Addr) (u2_q2_0_modCount : Value) (h0 : Heap) (n0 : Nat) (Z0 : n0 ≤ h0.size) (F_q2_0_elementData : Fld Z h0 q2_0 "java/util/ArrayList" "elementData" "[Ljava/lang/Object;" .null) (E_q2_0 : Exa Z h0 q2_0 "java/util/ArrayList") (F_q2_0_modCount : Fld Z h0 q2_0 "java/util/AbstractList" "modCount" "I" u2_q2_0_modCount) (g_q2_0 : n0 ≤ q2_0) :
    MetFree l (⟨"java/util/AbstractList", "<init>", "()V"⟩ : MethodName) (head1 (Jvm.Cond.code (⟨"java/util/AbstractList", "<init>", "()V"⟩ : MethodName) jdk_39_method_1_code 1 none :: ws) ({ frames := 2, cells := 0, slots := 0, locals := 24 } : Room)) (fun a U => a = #[(.ref q2_0)] ∧ Z.Warmed39 U.vm ∧ U.heap = h0) (fun _ _ _ _ _ => True) (fun _ U o U' => ∃ v L, o = .returned v ∧ Q2 Z q2_0 u2_q2_0_modCount h0 n0 v U'.heap L ∧ FrameEnd U o U' L ({ frames := 2, cells := 0, slots := 0, locals := 24 } : Room).cells ({ frames := 2, cells := 0, slots := 0, locals := 24 } : Room).slots) := by
  refine MetFree.of_bodySF (plainFor_of_name pn_2) hisR ?_
  intro p e s m args below meth c s₁ Bd hml0 hP hK
  obtain ⟨rfl, hZ, hh⟩ := hP
  have hx := Bd.exec
  have hby := Bd.bytes
  have hml : c.maxLocals = 1 := hml0
  have hown : s.vm.findClass "java/util/AbstractList" = some m.cls := findClass_of_methodNamed Bd.named
  have hnm := (name_of_methodNamed Bd.named Bd.method).1
  have X0 : Stand p l e ({ frames := 2, cells := 0, slots := 0, locals := 24 } : Room) s m #[(.ref q2_0)] below meth c s₁ [] 0 0 := Stand.of_body Bd
  have e0 : s₁.heap = h0 := by rw [← hh, Bd.state]; rfl
  have N0 := Fr.nil n0
  obtain ⟨S0, hE0⟩ : ∃ z, z = s₁.setTop (entryFrame m #[(.ref q2_0)] 1) := ⟨_, rfl⟩
  have P0 : own_Go p e below S0 (s₁.setTop (mkF m 0 #[.val (.ref q2_0)] [])) := fun t k => by rw [hE0]; exact castTop (ef_2 m q2_0) k
  have P1 : own_Go p e below S0 (s₁.setTop (mkF m 1 #[.val (.ref q2_0)] [(.ref q2_0)])) := fun t k => P0 t (by
    show Steps p.tables e below (s₁.setTop (mkF m 0 #[.val (.ref q2_0)] [])) t
    refine XS.aloadN X0.here hx rfl (hb hby d2_0) rfl rfl ?_
    show Steps p.tables e below (s₁.setTop (mkF m 1 #[.val (.ref q2_0)] [(.ref q2_0)])) t
    exact k)
  obtain ⟨_, _, ⟨T2, L2, k2, n2⟩, -, X2, ⟨Lc2, hQ2, l2, y2, z2⟩, st2⟩ := X0.specialBack hx (y := (⟨"java/util/AbstractCollection", "<init>", "()V"⟩ : MethodName)) rfl hown (mvT hZ (hw _ (List.mem_of_getElem? (i := 26) rfl))) (mvT hZ (hw _ (List.mem_of_getElem? (i := 27) rfl))) (mvT hZ (hw _ (List.mem_of_getElem? (i := 31) rfl))) (by decide) (backOf (W := 0) (rm3 l Z a0 hw [] q2_0 h0 n0 Z0) hZ (hw _ (List.mem_of_getElem? (i := 31) rfl)) (hw _ (List.mem_of_getElem? (i := 30) rfl)) (by decide) (by decide)) (g := (mkF m 1 #[.val (.ref q2_0)] [(.ref q2_0)])) rfl (by rw [hml]; rfl) (Steps.refl _) (a := q2_0) (argsL := []) (rest := []) (lenOf pd_0 rfl) rfl (by show 2 * 0 + _ ≤ _; exact Nat.le_of_eq rfl) (hb hby d2_1) (fun _ _ => ⟨rfl, e0, (by decide : 0 + 0 ≤ _), (by decide : 0 + 0 ≤ _)⟩)
  dsimp only [Pt.U, Pt.locs, Pt.cells, Pt.slots] at X2 l2 y2 z2 st2 hQ2
  subst l2 y2 z2
  obtain ⟨rfl, N2q, e2⟩ := hQ2
  have N2 := Fr.app N0 N2q
  have P2 : own_Go p e below S0 (T2.setTop (mkF m 4 #[.val (.ref q2_0)] [])) := fun t k => P1 t (st2.trans k)
  have P3 : own_Go p e below S0 (T2.setTop (mkF m 6 #[.val (.ref q2_0)] [(.int (0 : Int32)), (.ref q2_0)])) := fun t k => P2 t (by
    show Steps p.tables e below (T2.setTop (mkF m 4 #[.val (.ref q2_0)] [])) t
    refine XS.aloadN X2.here hx rfl (hb hby d2_4) rfl rfl ?_
    refine XS.iconst X2.here hx rfl (hb hby d2_5) ?_
    show Steps p.tables e below (T2.setTop (mkF m 6 #[.val (.ref q2_0)] [(.int (0 : Int32)), (.ref q2_0)])) t
    exact k)
  obtain ⟨T4, h4, X4, e4, W4, st4⟩ := putF X2 hx hZ hown (host := "") (Or.inl (hw _ (List.mem_of_getElem? (i := 35) rfl))) Via.refl e2 F_q2_0_modCount E_q2_0 (Or.inl (hw _ (List.mem_of_getElem? (i := 36) rfl))) (hw _ (List.mem_of_getElem? (i := 15) rfl)) (ty := .int) (by decide) rfl rfl (g := (mkF m 6 #[.val (.ref q2_0)] [(.int (0 : Int32)), (.ref q2_0)])) rfl rfl (hb hby d2_6)
  have K4 : Keep h0 h4 [q2_0] := (Keep.refl h0 [q2_0]).wr W4 (Or.inl (by simp))
  have N4 := Fr.snoc X4 N2 g_q2_0
  have F4w : Fld Z h4 q2_0 "java/util/AbstractList" "modCount" "I" (.int (0 : Int32)) := F_q2_0_modCount.same W4
  have P4 : own_Go p e below S0 (T4.setTop (mkF m 9 #[.val (.ref q2_0)] [])) := fun t k => P3 t (st4 _ k)
  have F5 : Fld Z h4 q2_0 "java/util/ArrayList" "elementData" "[Ljava/lang/Object;" .null := F_q2_0_elementData.other W4 (Or.inr (slot_ne (Or.inl (hw _ (List.mem_of_getElem? (i := 39) rfl))) (Or.inl (hw _ (List.mem_of_getElem? (i := 36) rfl))) (by decide) (t := (.array (.object "java/lang/Object"))) (t' := .int) (by decide) (by decide)))
  obtain ⟨fs, hr, hrun, hended, hW, hsame⟩ := X4.leave (v := none) (fun _ => rfl)
  refine ⟨_, _, own_from hE0 (P4 _ ?_), hrun, hended, _, _, rfl, ?_, ⟨_, rfl⟩, hW, hsame.mono (by decide) (by decide)⟩
  · show Steps p.tables e below (T4.setTop (mkF m 9 #[.val (.ref q2_0)] [])) _
    exact X4.returnOut hx Bd.returns (hb hby d2_9) hr
  · show Q2 Z q2_0 u2_q2_0_modCount h0 n0 _ T4.heap _
    rw [e4]
    exact ⟨rfl, N4, K4, F5, F4w⟩
theorem pn_1 : plainName "java/util/ArrayList" = true := by first | (simp [plainName, overriddenIn]; done) | decide +kernel
theorem d1_0 : decode jdk_38_method_2_code 0 = .ok (.aload_n 0, 1) := by decide +kernel
theorem d1_1 : decode jdk_38_method_2_code 1 = .ok (.invokespecial 1, 3) := by decide +kernel
theorem d1_4 : decode jdk_38_method_2_code 4 = .ok (.aload_n 0, 1) := by decide +kernel
theorem d1_5 : decode jdk_38_method_2_code 5 = .ok (.getstatic 39, 3) := by decide +kernel
theorem d1_8 : decode jdk_38_method_2_code 8 = .ok (.putfield 9, 3) := by decide +kernel
theorem d1_11 : decode jdk_38_method_2_code 11 = .ok (.return_, 1) := by decide +kernel
theorem ef_1 (m : MethodId) (q1_0 : Addr) : entryFrame m #[(.ref q1_0)] 1 = mkF m 0 #[.val (.ref q1_0)] [] := by first | (simp [entryFrame, mkF, argsToLocals, Value.category]; done) | rfl
def Q1 (Z : State) (q1_0 : Addr) (u1_q1_0_modCount : Value) (z1_DEFAULTCAPACITY_EMPTY_ELEMENTDATA : Addr) (h0 : Heap) (n0 : Nat) (v : Option Value) (h : Heap) (L : List Loc) : Prop := v = none ∧ Fr n0 L ∧ Keep h0 h [q1_0] ∧ Fld Z h q1_0 "java/util/ArrayList" "elementData" "[Ljava/lang/Object;" (.ref z1_DEFAULTCAPACITY_EMPTY_ELEMENTDATA) ∧ Fld Z h q1_0 "java/util/AbstractList" "modCount" "I" (.int (0 : Int32))
set_option maxRecDepth 65536 in
set_option maxHeartbeats 40000000 in
theorem rm1 (l : Launch) (Z : State) (a0 : Array Value) (hw : ∀ d ∈ tables_1, d.before a0 Z = true) (ws : List Jvm.Cond) (q1_0 : Addr) (u1_q1_0_modCount : Value) (z1_DEFAULTCAPACITY_EMPTY_ELEMENTDATA : Addr) (h0 : Heap) (n0 : Nat) (Z0 : n0 ≤ h0.size) (F_q1_0_elementData : Fld Z h0 q1_0 "java/util/ArrayList" "elementData" "[Ljava/lang/Object;" .null) (E_q1_0 : Exa Z h0 q1_0 "java/util/ArrayList") (F_q1_0_modCount : Fld Z h0 q1_0 "java/util/AbstractList" "modCount" "I" u1_q1_0_modCount) (g_q1_0 : n0 ≤ q1_0) (S_DEFAULTCAPACITY_EMPTY_ELEMENTDATA : Sta Z h0 "java/util/ArrayList" "DEFAULTCAPACITY_EMPTY_ELEMENTDATA" "[Ljava/lang/Object;" (.ref z1_DEFAULTCAPACITY_EMPTY_ELEMENTDATA)) :
    MetFree l (⟨"java/util/ArrayList", "<init>", "()V"⟩ : MethodName) (head1 (Jvm.Cond.code (⟨"java/util/ArrayList", "<init>", "()V"⟩ : MethodName) jdk_38_method_2_code 1 none :: ws) ({ frames := 3, cells := 0, slots := 0, locals := 36 } : Room)) (fun a U => a = #[(.ref q1_0)] ∧ Z.Warmed39 U.vm ∧ U.heap = h0) (fun _ _ _ _ _ => True) (fun _ U o U' => ∃ v L, o = .returned v ∧ Q1 Z q1_0 u1_q1_0_modCount z1_DEFAULTCAPACITY_EMPTY_ELEMENTDATA h0 n0 v U'.heap L ∧ FrameEnd U o U' L ({ frames := 3, cells := 0, slots := 0, locals := 36 } : Room).cells ({ frames := 3, cells := 0, slots := 0, locals := 36 } : Room).slots) := by
  refine MetFree.of_bodySF (plainFor_of_name pn_1) hisR ?_
  intro p e s m args below meth c s₁ Bd hml0 hP hK
  obtain ⟨rfl, hZ, hh⟩ := hP
  have hx := Bd.exec
  have hby := Bd.bytes
  have hml : c.maxLocals = 1 := hml0
  have hown : s.vm.findClass "java/util/ArrayList" = some m.cls := findClass_of_methodNamed Bd.named
  have hnm := (name_of_methodNamed Bd.named Bd.method).1
  have X0 : Stand p l e ({ frames := 3, cells := 0, slots := 0, locals := 36 } : Room) s m #[(.ref q1_0)] below meth c s₁ [] 0 0 := Stand.of_body Bd
  have e0 : s₁.heap = h0 := by rw [← hh, Bd.state]; rfl
  have N0 := Fr.nil n0
  obtain ⟨S0, hE0⟩ : ∃ z, z = s₁.setTop (entryFrame m #[(.ref q1_0)] 1) := ⟨_, rfl⟩
  have P0 : own_Go p e below S0 (s₁.setTop (mkF m 0 #[.val (.ref q1_0)] [])) := fun t k => by rw [hE0]; exact castTop (ef_1 m q1_0) k
  have P1 : own_Go p e below S0 (s₁.setTop (mkF m 1 #[.val (.ref q1_0)] [(.ref q1_0)])) := fun t k => P0 t (by
    show Steps p.tables e below (s₁.setTop (mkF m 0 #[.val (.ref q1_0)] [])) t
    refine XS.aloadN X0.here hx rfl (hb hby d1_0) rfl rfl ?_
    show Steps p.tables e below (s₁.setTop (mkF m 1 #[.val (.ref q1_0)] [(.ref q1_0)])) t
    exact k)
  obtain ⟨_, _, ⟨T2, L2, k2, n2⟩, -, X2, ⟨Lc2, hQ2, l2, y2, z2⟩, st2⟩ := X0.specialBack hx (y := (⟨"java/util/AbstractList", "<init>", "()V"⟩ : MethodName)) rfl hown (mvT hZ (hw _ (List.mem_of_getElem? (i := 20) rfl))) (mvT hZ (hw _ (List.mem_of_getElem? (i := 21) rfl))) (mvT hZ (hw _ (List.mem_of_getElem? (i := 25) rfl))) (by decide) (backOf (W := 0) (rm2 l Z a0 hw [] q1_0 u1_q1_0_modCount h0 n0 Z0 F_q1_0_elementData E_q1_0 F_q1_0_modCount g_q1_0) hZ (hw _ (List.mem_of_getElem? (i := 25) rfl)) (hw _ (List.mem_of_getElem? (i := 24) rfl)) (by decide) (by decide)) (g := (mkF m 1 #[.val (.ref q1_0)] [(.ref q1_0)])) rfl (by rw [hml]; rfl) (Steps.refl _) (a := q1_0) (argsL := []) (rest := []) (lenOf pd_0 rfl) rfl (by show 2 * 0 + _ ≤ _; exact Nat.le_of_eq rfl) (hb hby d1_1) (fun _ _ => ⟨rfl, e0, (by decide : 0 + 0 ≤ _), (by decide : 0 + 0 ≤ _)⟩)
  dsimp only [Pt.U, Pt.locs, Pt.cells, Pt.slots] at X2 l2 y2 z2 st2 hQ2
  subst l2 y2 z2
  obtain ⟨rfl, N2q, Kc2, F2_0, F2_1⟩ := hQ2
  have N2 := Fr.app N0 N2q
  have K2 : Keep h0 T2.heap [q1_0] := Keep.trans (Keep.refl h0 [q1_0]) Kc2 (allS (Or.inl (by simp)) all0)
  have P2 : own_Go p e below S0 (T2.setTop (mkF m 4 #[.val (.ref q1_0)] [])) := fun t k => P1 t (st2.trans k)
  have F3 : Sta Z T2.heap "java/util/ArrayList" "DEFAULTCAPACITY_EMPTY_ELEMENTDATA" "[Ljava/lang/Object;" (.ref z1_DEFAULTCAPACITY_EMPTY_ELEMENTDATA) := own_staK S_DEFAULTCAPACITY_EMPTY_ELEMENTDATA Kc2 (allS (own_plE E_q1_0) all0)
  have P4 : own_Go p e below S0 (T2.setTop (mkF m 5 #[.val (.ref q1_0)] [(.ref q1_0)])) := fun t k => P2 t (by
    show Steps p.tables e below (T2.setTop (mkF m 4 #[.val (.ref q1_0)] [])) t
    refine XS.aloadN X2.here hx rfl (hb hby d1_4) rfl rfl ?_
    show Steps p.tables e below (T2.setTop (mkF m 5 #[.val (.ref q1_0)] [(.ref q1_0)])) t
    exact k)
  obtain ⟨T5, X5, e5, st5⟩ := getS2 X2 hx hZ hown (host := "") (Or.inl (hw _ (List.mem_of_getElem? (i := 37) rfl))) Via.refl rfl F3 (g := (mkF m 5 #[.val (.ref q1_0)] [(.ref q1_0)])) rfl (hb hby d1_5)
  have P5 : own_Go p e below S0 (T5.setTop (mkF m 8 #[.val (.ref q1_0)] [(.ref z1_DEFAULTCAPACITY_EMPTY_ELEMENTDATA), (.ref q1_0)])) := fun t k => P4 t (st5 _ k)
  have F6 : Exa Z T2.heap q1_0 "java/util/ArrayList" := E_q1_0.keep Kc2
  obtain ⟨T7, h7, X7, e7, W7, st7⟩ := putF X5 hx hZ hown (host := "") (Or.inl (hw _ (List.mem_of_getElem? (i := 38) rfl))) Via.refl e5 F2_0 F6 (Or.inl (hw _ (List.mem_of_getElem? (i := 39) rfl))) (hw _ (List.mem_of_getElem? (i := 15) rfl)) (ty := (.array (.object "java/lang/Object"))) (by decide) rfl rfl (g := (mkF m 8 #[.val (.ref q1_0)] [(.ref z1_DEFAULTCAPACITY_EMPTY_ELEMENTDATA), (.ref q1_0)])) rfl rfl (hb hby d1_8)
  have K7 : Keep h0 h7 [q1_0] := K2.wr W7 (Or.inl (by simp))
  have N7 := Fr.snoc X7 N2 g_q1_0
  have F7w : Fld Z h7 q1_0 "java/util/ArrayList" "elementData" "[Ljava/lang/Object;" (.ref z1_DEFAULTCAPACITY_EMPTY_ELEMENTDATA) := F2_0.same W7
  have P7 : own_Go p e below S0 (T7.setTop (mkF m 11 #[.val (.ref q1_0)] [])) := fun t k => P5 t (st7 _ k)
  have F8 : Fld Z h7 q1_0 "java/util/AbstractList" "modCount" "I" (.int (0 : Int32)) := F2_1.other W7 (Or.inr (slot_ne (Or.inl (hw _ (List.mem_of_getElem? (i := 36) rfl))) (Or.inl (hw _ (List.mem_of_getElem? (i := 39) rfl))) (by decide) (t := .int) (t' := (.array (.object "java/lang/Object"))) (by decide) (by decide)))
  obtain ⟨fs, hr, hrun, hended, hW, hsame⟩ := X7.leave (v := none) (fun _ => rfl)
  refine ⟨_, _, own_from hE0 (P7 _ ?_), hrun, hended, _, _, rfl, ?_, ⟨_, rfl⟩, hW, hsame.mono (by decide) (by decide)⟩
  · show Steps p.tables e below (T7.setTop (mkF m 11 #[.val (.ref q1_0)] [])) _
    exact X7.returnOut hx Bd.returns (hb hby d1_11) hr
  · show Q1 Z q1_0 u1_q1_0_modCount z1_DEFAULTCAPACITY_EMPTY_ELEMENTDATA h0 n0 _ T7.heap _
    rw [e7]
    exact ⟨rfl, N7, K7, F7w, F8⟩
theorem pn_5 : plainName "com/example/names_for_good/namesforgood/protocol/EncodedValue" = true := by first | (simp [plainName, overriddenIn]; done) | decide +kernel
theorem d5_0 : decode prog_26_method_1_code 0 = .ok (.aload_n 0, 1) := by decide +kernel
theorem d5_1 : decode prog_26_method_1_code 1 = .ok (.invokespecial 1, 3) := by decide +kernel
theorem d5_4 : decode prog_26_method_1_code 4 = .ok (.aload_n 0, 1) := by decide +kernel
theorem d5_5 : decode prog_26_method_1_code 5 = .ok (.aload_n 1, 1) := by decide +kernel
theorem d5_6 : decode prog_26_method_1_code 6 = .ok (.putfield 7, 3) := by decide +kernel
theorem d5_9 : decode prog_26_method_1_code 9 = .ok (.aload_n 0, 1) := by decide +kernel
theorem d5_10 : decode prog_26_method_1_code 10 = .ok (.iload_n 2, 1) := by decide +kernel
theorem d5_11 : decode prog_26_method_1_code 11 = .ok (.putfield 13, 3) := by decide +kernel
theorem d5_14 : decode prog_26_method_1_code 14 = .ok (.aload_n 0, 1) := by decide +kernel
theorem d5_15 : decode prog_26_method_1_code 15 = .ok (.iload_n 3, 1) := by decide +kernel
theorem d5_16 : decode prog_26_method_1_code 16 = .ok (.putfield 17, 3) := by decide +kernel
theorem d5_19 : decode prog_26_method_1_code 19 = .ok (.aload_n 0, 1) := by decide +kernel
theorem d5_20 : decode prog_26_method_1_code 20 = .ok (.lload 4, 2) := by decide +kernel
theorem d5_22 : decode prog_26_method_1_code 22 = .ok (.putfield 20, 3) := by decide +kernel
theorem d5_25 : decode prog_26_method_1_code 25 = .ok (.aload_n 0, 1) := by decide +kernel
theorem d5_26 : decode prog_26_method_1_code 26 = .ok (.lload 6, 2) := by decide +kernel
theorem d5_28 : decode prog_26_method_1_code 28 = .ok (.putfield 24, 3) := by decide +kernel
theorem d5_31 : decode prog_26_method_1_code 31 = .ok (.aload_n 0, 1) := by decide +kernel
theorem d5_32 : decode prog_26_method_1_code 32 = .ok (.aload 8, 2) := by decide +kernel
theorem d5_34 : decode prog_26_method_1_code 34 = .ok (.putfield 27, 3) := by decide +kernel
theorem d5_37 : decode prog_26_method_1_code 37 = .ok (.aload_n 0, 1) := by decide +kernel
theorem d5_38 : decode prog_26_method_1_code 38 = .ok (.lload 9, 2) := by decide +kernel
theorem d5_40 : decode prog_26_method_1_code 40 = .ok (.putfield 31, 3) := by decide +kernel
theorem d5_43 : decode prog_26_method_1_code 43 = .ok (.aload_n 0, 1) := by decide +kernel
theorem d5_44 : decode prog_26_method_1_code 44 = .ok (.iload 11, 2) := by decide +kernel
theorem d5_46 : decode prog_26_method_1_code 46 = .ok (.putfield 34, 3) := by decide +kernel
theorem d5_49 : decode prog_26_method_1_code 49 = .ok (.aload_n 0, 1) := by decide +kernel
theorem d5_50 : decode prog_26_method_1_code 50 = .ok (.aload 12, 2) := by decide +kernel
theorem d5_52 : decode prog_26_method_1_code 52 = .ok (.putfield 37, 3) := by decide +kernel
theorem d5_55 : decode prog_26_method_1_code 55 = .ok (.aload_n 0, 1) := by decide +kernel
theorem d5_56 : decode prog_26_method_1_code 56 = .ok (.iload 13, 2) := by decide +kernel
theorem d5_58 : decode prog_26_method_1_code 58 = .ok (.putfield 41, 3) := by decide +kernel
theorem d5_61 : decode prog_26_method_1_code 61 = .ok (.aload_n 0, 1) := by decide +kernel
theorem d5_62 : decode prog_26_method_1_code 62 = .ok (.iload 14, 2) := by decide +kernel
theorem d5_64 : decode prog_26_method_1_code 64 = .ok (.putfield 44, 3) := by decide +kernel
theorem d5_67 : decode prog_26_method_1_code 67 = .ok (.aload_n 0, 1) := by decide +kernel
theorem d5_68 : decode prog_26_method_1_code 68 = .ok (.iload 15, 2) := by decide +kernel
theorem d5_70 : decode prog_26_method_1_code 70 = .ok (.putfield 47, 3) := by decide +kernel
theorem d5_73 : decode prog_26_method_1_code 73 = .ok (.aload_n 0, 1) := by decide +kernel
theorem d5_74 : decode prog_26_method_1_code 74 = .ok (.iload 16, 2) := by decide +kernel
theorem d5_76 : decode prog_26_method_1_code 76 = .ok (.putfield 50, 3) := by decide +kernel
theorem d5_79 : decode prog_26_method_1_code 79 = .ok (.aload_n 0, 1) := by decide +kernel
theorem d5_80 : decode prog_26_method_1_code 80 = .ok (.aload 17, 2) := by decide +kernel
theorem d5_82 : decode prog_26_method_1_code 82 = .ok (.putfield 53, 3) := by decide +kernel
theorem d5_85 : decode prog_26_method_1_code 85 = .ok (.return_, 1) := by decide +kernel
theorem ef_5 (m : MethodId) (q5_0 : Addr) (q5_1 : Addr) (q5_2 : Int32) (q5_3 : Int32) (q5_4 : Int64) (q5_5 : Int64) (q5_6 : Addr) (q5_7 : Int64) (q5_8 : Int32) (q5_9 : Addr) (q5_10 : Int32) (q5_11 : Int32) (q5_12 : Int32) (q5_13 : Int32) (q5_14 : Addr) : entryFrame m #[(.ref q5_0), (.ref q5_1), (.int q5_2), (.int q5_3), (.long q5_4), (.long q5_5), (.ref q5_6), (.long q5_7), (.int q5_8), (.ref q5_9), (.int q5_10), (.int q5_11), (.int q5_12), (.int q5_13), (.ref q5_14)] 18 = mkF m 0 #[.val (.ref q5_0), .val (.ref q5_1), .val (.int q5_2), .val (.int q5_3), .val (.long q5_4), .second, .val (.long q5_5), .second, .val (.ref q5_6), .val (.long q5_7), .second, .val (.int q5_8), .val (.ref q5_9), .val (.int q5_10), .val (.int q5_11), .val (.int q5_12), .val (.int q5_13), .val (.ref q5_14)] [] := by first | (simp [entryFrame, mkF, argsToLocals, Value.category]; done) | rfl
def Q5 (Z : State) (q5_0 : Addr) (q5_1 : Addr) (q5_2 : Int32) (q5_3 : Int32) (q5_4 : Int64) (q5_5 : Int64) (q5_6 : Addr) (q5_7 : Int64) (q5_8 : Int32) (q5_9 : Addr) (q5_10 : Int32) (q5_11 : Int32) (q5_12 : Int32) (q5_13 : Int32) (q5_14 : Addr) (u5_q5_0_octets : Value) (u5_q5_0_from : Value) (u5_q5_0_to : Value) (u5_q5_0_index : Value) (u5_q5_0_timestamp : Value) (u5_q5_0_ttlType : Value) (u5_q5_0_ttl : Value) (u5_q5_0_permissions : Value) (u5_q5_0_type : Value) (u5_q5_0_typeFrom : Value) (u5_q5_0_typeLength : Value) (u5_q5_0_dataFrom : Value) (u5_q5_0_dataLength : Value) (u5_q5_0_references : Value) (h0 : Heap) (n0 : Nat) (v : Option Value) (h : Heap) (L : List Loc) : Prop := v = none ∧ Fr n0 L ∧ Keep h0 h [q5_0] ∧ Fld Z h q5_0 "com/example/names_for_good/namesforgood/protocol/EncodedValue" "octets" "[B" (.ref q5_1) ∧ Fld Z h q5_0 "com/example/names_for_good/namesforgood/protocol/EncodedValue" "from" "I" (.int q5_2) ∧ Fld Z h q5_0 "com/example/names_for_good/namesforgood/protocol/EncodedValue" "to" "I" (.int q5_3) ∧ Fld Z h q5_0 "com/example/names_for_good/namesforgood/protocol/EncodedValue" "index" "J" (.long q5_4) ∧ Fld Z h q5_0 "com/example/names_for_good/namesforgood/protocol/EncodedValue" "timestamp" "J" (.long q5_5) ∧ Fld Z h q5_0 "com/example/names_for_good/namesforgood/protocol/EncodedValue" "ttlType" "Lcom/example/names_for_good/namesforgood/records/HandleValue$TtlType;" (.ref q5_6) ∧ Fld Z h q5_0 "com/example/names_for_good/namesforgood/protocol/EncodedValue" "ttl" "J" (.long q5_7) ∧ Fld Z h q5_0 "com/example/names_for_good/namesforgood/protocol/EncodedValue" "permissions" "I" (.int q5_8) ∧ Fld Z h q5_0 "com/example/names_for_good/namesforgood/protocol/EncodedValue" "type" "Ljava/lang/String;" (.ref q5_9) ∧ Fld Z h q5_0 "com/example/names_for_good/namesforgood/protocol/EncodedValue" "typeFrom" "I" (.int q5_10) ∧ Fld Z h q5_0 "com/example/names_for_good/namesforgood/protocol/EncodedValue" "typeLength" "I" (.int q5_11) ∧ Fld Z h q5_0 "com/example/names_for_good/namesforgood/protocol/EncodedValue" "dataFrom" "I" (.int q5_12) ∧ Fld Z h q5_0 "com/example/names_for_good/namesforgood/protocol/EncodedValue" "dataLength" "I" (.int q5_13) ∧ Fld Z h q5_0 "com/example/names_for_good/namesforgood/protocol/EncodedValue" "references" "Ljava/util/List;" (.ref q5_14)
set_option maxRecDepth 65536 in
set_option maxHeartbeats 40000000 in
theorem rm5 (l : Launch) (Z : State) (a0 : Array Value) (hw : ∀ d ∈ tables_1, d.before a0 Z = true) (ws : List Jvm.Cond) (q5_0 : Addr) (q5_1 : Addr) (q5_2 : Int32) (q5_3 : Int32) (q5_4 : Int64) (q5_5 : Int64) (q5_6 : Addr) (q5_7 : Int64) (q5_8 : Int32) (q5_9 : Addr) (q5_10 : Int32) (q5_11 : Int32) (q5_12 : Int32) (q5_13 : Int32) (q5_14 : Addr) (u5_q5_0_octets : Value) (u5_q5_0_from : Value) (u5_q5_0_to : Value) (u5_q5_0_index : Value) (u5_q5_0_timestamp : Value) (u5_q5_0_ttlType : Value) (u5_q5_0_ttl : Value) (u5_q5_0_permissions : Value) (u5_q5_0_type : Value) (u5_q5_0_typeFrom : Value) (u5_q5_0_typeLength : Value) (u5_q5_0_dataFrom : Value) (u5_q5_0_dataLength : Value) (u5_q5_0_references : Value) (h0 : Heap) (n0 : Nat) (Z0 : n0 ≤ h0.size) (E_q5_0 : Exa Z h0 q5_0 "com/example/names_for_good/namesforgood/protocol/EncodedValue") (F_q5_0_octets : Fld Z h0 q5_0 "com/example/names_for_good/namesforgood/protocol/EncodedValue" "octets" "[B" u5_q5_0_octets) (g_q5_0 : n0 ≤ q5_0) (F_q5_0_from : Fld Z h0 q5_0 "com/example/names_for_good/namesforgood/protocol/EncodedValue" "from" "I" u5_q5_0_from) (F_q5_0_to : Fld Z h0 q5_0 "com/example/names_for_good/namesforgood/protocol/EncodedValue" "to" "I" u5_q5_0_to) (F_q5_0_index : Fld Z h0 q5_0 "com/example/names_for_good/namesforgood/protocol/EncodedValue" "index" "J" u5_q5_0_index) (F_q5_0_timestamp : Fld Z h0 q5_0 "com/example/names_for_good/namesforgood/protocol/EncodedValue" "timestamp" "J" u5_q5_0_timestamp) (F_q5_0_ttlType : Fld Z h0 q5_0 "com/example/names_for_good/namesforgood/protocol/EncodedValue" "ttlType" "Lcom/example/names_for_good/namesforgood/records/HandleValue$TtlType;" u5_q5_0_ttlType) (F_q5_0_ttl : Fld Z h0 q5_0 "com/example/names_for_good/namesforgood/protocol/EncodedValue" "ttl" "J" u5_q5_0_ttl) (F_q5_0_permissions : Fld Z h0 q5_0 "com/example/names_for_good/namesforgood/protocol/EncodedValue" "permissions" "I" u5_q5_0_permissions) (F_q5_0_type : Fld Z h0 q5_0 "com/example/names_for_good/namesforgood/protocol/EncodedValue" "type" "Ljava/lang/String;" u5_q5_0_type) (F_q5_0_typeFrom : Fld Z h0 q5_0 "com/example/names_for_good/namesforgood/protocol/EncodedValue" "typeFrom" "I" u5_q5_0_typeFrom) (F_q5_0_typeLength : Fld Z h0 q5_0 "com/example/names_for_good/namesforgood/protocol/EncodedValue" "typeLength" "I" u5_q5_0_typeLength) (F_q5_0_dataFrom : Fld Z h0 q5_0 "com/example/names_for_good/namesforgood/protocol/EncodedValue" "dataFrom" "I" u5_q5_0_dataFrom) (F_q5_0_dataLength : Fld Z h0 q5_0 "com/example/names_for_good/namesforgood/protocol/EncodedValue" "dataLength" "I" u5_q5_0_dataLength) (F_q5_0_references : Fld Z h0 q5_0 "com/example/names_for_good/namesforgood/protocol/EncodedValue" "references" "Ljava/util/List;" u5_q5_0_references) :
    MetFree l (⟨"com/example/names_for_good/namesforgood/protocol/EncodedValue", "<init>", "([BIIJJLcom/example/names_for_good/namesforgood/records/HandleValue$TtlType;JILjava/lang/String;IIIILjava/util/List;)V"⟩ : MethodName) (head1 (Jvm.Cond.code (⟨"com/example/names_for_good/namesforgood/protocol/EncodedValue", "<init>", "([BIIJJLcom/example/names_for_good/namesforgood/records/HandleValue$TtlType;JILjava/lang/String;IIIILjava/util/List;)V"⟩ : MethodName) prog_26_method_1_code 18 none :: ws) ({ frames := 1, cells := 0, slots := 0, locals := 12 } : Room)) (fun a U => a = #[(.ref q5_0), (.ref q5_1), (.int q5_2), (.int q5_3), (.long q5_4), (.long q5_5), (.ref q5_6), (.long q5_7), (.int q5_8), (.ref q5_9), (.int q5_10), (.int q5_11), (.int q5_12), (.int q5_13), (.ref q5_14)] ∧ Z.Warmed39 U.vm ∧ U.heap = h0) (fun _ _ _ _ _ => True) (fun _ U o U' => ∃ v L, o = .returned v ∧ Q5 Z q5_0 q5_1 q5_2 q5_3 q5_4 q5_5 q5_6 q5_7 q5_8 q5_9 q5_10 q5_11 q5_12 q5_13 q5_14 u5_q5_0_octets u5_q5_0_from u5_q5_0_to u5_q5_0_index u5_q5_0_timestamp u5_q5_0_ttlType u5_q5_0_ttl u5_q5_0_permissions u5_q5_0_type u5_q5_0_typeFrom u5_q5_0_typeLength u5_q5_0_dataFrom u5_q5_0_dataLength u5_q5_0_references h0 n0 v U'.heap L ∧ FrameEnd U o U' L ({ frames := 1, cells := 0, slots := 0, locals := 12 } : Room).cells ({ frames := 1, cells := 0, slots := 0, locals := 12 } : Room).slots) := by
  refine MetFree.of_bodySF (plainFor_of_name pn_5) hisR ?_
  intro p e s m args below meth c s₁ Bd hml0 hP hK
  obtain ⟨rfl, hZ, hh⟩ := hP
  have hx := Bd.exec
  have hby := Bd.bytes
  have hml : c.maxLocals = 18 := hml0
  have hown : s.vm.findClass "com/example/names_for_good/namesforgood/protocol/EncodedValue" = some m.cls := findClass_of_methodNamed Bd.named
  have hnm := (name_of_methodNamed Bd.named Bd.method).1
  have X0 : Stand p l e ({ frames := 1, cells := 0, slots := 0, locals := 12 } : Room) s m #[(.ref q5_0), (.ref q5_1), (.int q5_2), (.int q5_3), (.long q5_4), (.long q5_5), (.ref q5_6), (.long q5_7), (.int q5_8), (.ref q5_9), (.int q5_10), (.int q5_11), (.int q5_12), (.int q5_13), (.ref q5_14)] below meth c s₁ [] 0 0 := Stand.of_body Bd
  have e0 : s₁.heap = h0 := by rw [← hh, Bd.state]; rfl
  have N0 := Fr.nil n0
  obtain ⟨S0, hE0⟩ : ∃ z, z = s₁.setTop (entryFrame m #[(.ref q5_0), (.ref q5_1), (.int q5_2), (.int q5_3), (.long q5_4), (.long q5_5), (.ref q5_6), (.long q5_7), (.int q5_8), (.ref q5_9), (.int q5_10), (.int q5_11), (.int q5_12), (.int q5_13), (.ref q5_14)] 18) := ⟨_, rfl⟩
  have P0 : own_Go p e below S0 (s₁.setTop (mkF m 0 #[.val (.ref q5_0), .val (.ref q5_1), .val (.int q5_2), .val (.int q5_3), .val (.long q5_4), .second, .val (.long q5_5), .second, .val (.ref q5_6), .val (.long q5_7), .second, .val (.int q5_8), .val (.ref q5_9), .val (.int q5_10), .val (.int q5_11), .val (.int q5_12), .val (.int q5_13), .val (.ref q5_14)] [])) := fun t k => by rw [hE0]; exact castTop (ef_5 m q5_0 q5_1 q5_2 q5_3 q5_4 q5_5 q5_6 q5_7 q5_8 q5_9 q5_10 q5_11 q5_12 q5_13 q5_14) k
  have P1 : own_Go p e below S0 (s₁.setTop (mkF m 1 #[.val (.ref q5_0), .val (.ref q5_1), .val (.int q5_2), .val (.int q5_3), .val (.long q5_4), .second, .val (.long q5_5), .second, .val (.ref q5_6), .val (.long q5_7), .second, .val (.int q5_8), .val (.ref q5_9), .val (.int q5_10), .val (.int q5_11), .val (.int q5_12), .val (.int q5_13), .val (.ref q5_14)] [(.ref q5_0)])) := fun t k => P0 t (by
    show Steps p.tables e below (s₁.setTop (mkF m 0 #[.val (.ref q5_0), .val (.ref q5_1), .val (.int q5_2), .val (.int q5_3), .val (.long q5_4), .second, .val (.long q5_5), .second, .val (.ref q5_6), .val (.long q5_7), .second, .val (.int q5_8), .val (.ref q5_9), .val (.int q5_10), .val (.int q5_11), .val (.int q5_12), .val (.int q5_13), .val (.ref q5_14)] [])) t
    refine XS.aloadN X0.here hx rfl (hb hby d5_0) rfl rfl ?_
    show Steps p.tables e below (s₁.setTop (mkF m 1 #[.val (.ref q5_0), .val (.ref q5_1), .val (.int q5_2), .val (.int q5_3), .val (.long q5_4), .second, .val (.long q5_5), .second, .val (.ref q5_6), .val (.long q5_7), .second, .val (.int q5_8), .val (.ref q5_9), .val (.int q5_10), .val (.int q5_11), .val (.int q5_12), .val (.int q5_13), .val (.ref q5_14)] [(.ref q5_0)])) t
    exact k)
  obtain ⟨T2, X2, e2, st2⟩ := initO X0 hx hZ hown (hw _ (List.mem_of_getElem? (i := 43) rfl)) (hw _ (List.mem_of_getElem? (i := 33) rfl)) (hw _ (List.mem_of_getElem? (i := 34) rfl)) e0 (g := (mkF m 1 #[.val (.ref q5_0), .val (.ref q5_1), .val (.int q5_2), .val (.int q5_3), .val (.long q5_4), .second, .val (.long q5_5), .second, .val (.ref q5_6), .val (.long q5_7), .second, .val (.int q5_8), .val (.ref q5_9), .val (.int q5_10), .val (.int q5_11), .val (.int q5_12), .val (.int q5_13), .val (.ref q5_14)] [(.ref q5_0)])) rfl (by rw [hml]; rfl) rfl (hb hby d5_1) (by decide) (W := 0) (by show 2 * 0 + _ ≤ _; exact Nat.le_of_eq rfl) (by decide)
  have P2 : own_Go p e below S0 (T2.setTop (mkF m 4 #[.val (.ref q5_0), .val (.ref q5_1), .val (.int q5_2), .val (.int q5_3), .val (.long q5_4), .second, .val (.long q5_5), .second, .val (.ref q5_6), .val (.long q5_7), .second, .val (.int q5_8), .val (.ref q5_9), .val (.int q5_10), .val (.int q5_11), .val (.int q5_12), .val (.int q5_13), .val (.ref q5_14)] [])) := fun t k => P1 t (st2 _ k)
  have P3 : own_Go p e below S0 (T2.setTop (mkF m 6 #[.val (.ref q5_0), .val (.ref q5_1), .val (.int q5_2), .val (.int q5_3), .val (.long q5_4), .second, .val (.long q5_5), .second, .val (.ref q5_6), .val (.long q5_7), .second, .val (.int q5_8), .val (.ref q5_9), .val (.int q5_10), .val (.int q5_11), .val (.int q5_12), .val (.int q5_13), .val (.ref q5_14)] [(.ref q5_1), (.ref q5_0)])) := fun t k => P2 t (by
    show Steps p.tables e below (T2.setTop (mkF m 4 #[.val (.ref q5_0), .val (.ref q5_1), .val (.int q5_2), .val (.int q5_3), .val (.long q5_4), .second, .val (.long q5_5), .second, .val (.ref q5_6), .val (.long q5_7), .second, .val (.int q5_8), .val (.ref q5_9), .val (.int q5_10), .val (.int q5_11), .val (.int q5_12), .val (.int q5_13), .val (.ref q5_14)] [])) t
    refine XS.aloadN X2.here hx rfl (hb hby d5_4) rfl rfl ?_
    refine XS.aloadN X2.here hx rfl (hb hby d5_5) rfl rfl ?_
    show Steps p.tables e below (T2.setTop (mkF m 6 #[.val (.ref q5_0), .val (.ref q5_1), .val (.int q5_2), .val (.int q5_3), .val (.long q5_4), .second, .val (.long q5_5), .second, .val (.ref q5_6), .val (.long q5_7), .second, .val (.int q5_8), .val (.ref q5_9), .val (.int q5_10), .val (.int q5_11), .val (.int q5_12), .val (.int q5_13), .val (.ref q5_14)] [(.ref q5_1), (.ref q5_0)])) t
    exact k)
  obtain ⟨T4, h4, X4, e4, W4, st4⟩ := putF X2 hx hZ hown (host := "") (Or.inl (hw _ (List.mem_of_getElem? (i := 44) rfl))) Via.refl e2 F_q5_0_octets E_q5_0 (Or.inr ⟨(hw _ (List.mem_of_getElem? (i := 45) rfl)), rfl, hnm⟩) (hw _ (List.mem_of_getElem? (i := 4) rfl)) (ty := (.array .byte)) (by decide) rfl rfl (g := (mkF m 6 #[.val (.ref q5_0), .val (.ref q5_1), .val (.int q5_2), .val (.int q5_3), .val (.long q5_4), .second, .val (.long q5_5), .second, .val (.ref q5_6), .val (.long q5_7), .second, .val (.int q5_8), .val (.ref q5_9), .val (.int q5_10), .val (.int q5_11), .val (.int q5_12), .val (.int q5_13), .val (.ref q5_14)] [(.ref q5_1), (.ref q5_0)])) rfl rfl (hb hby d5_6)
  have K4 : Keep h0 h4 [q5_0] := (Keep.refl h0 [q5_0]).wr W4 (Or.inl (by simp))
  have N4 := Fr.snoc X4 N0 g_q5_0
  have F4w : Fld Z h4 q5_0 "com/example/names_for_good/namesforgood/protocol/EncodedValue" "octets" "[B" (.ref q5_1) := F_q5_0_octets.same W4
  have P4 : own_Go p e below S0 (T4.setTop (mkF m 9 #[.val (.ref q5_0), .val (.ref q5_1), .val (.int q5_2), .val (.int q5_3), .val (.long q5_4), .second, .val (.long q5_5), .second, .val (.ref q5_6), .val (.long q5_7), .second, .val (.int q5_8), .val (.ref q5_9), .val (.int q5_10), .val (.int q5_11), .val (.int q5_12), .val (.int q5_13), .val (.ref q5_14)] [])) := fun t k => P3 t (st4 _ k)
  have F5 : Exa Z h4 q5_0 "com/example/names_for_good/namesforgood/protocol/EncodedValue" := E_q5_0.wr W4
  have F6 : Fld Z h4 q5_0 "com/example/names_for_good/namesforgood/protocol/EncodedValue" "from" "I" u5_q5_0_from := F_q5_0_from.other W4 (Or.inr (slot_ne (Or.inr (hw _ (List.mem_of_getElem? (i := 47) rfl))) (Or.inr (hw _ (List.mem_of_getElem? (i := 45) rfl))) (by decide) (t := .int) (t' := (.array .byte)) (by decide) (by decide)))
  have P7 : own_Go p e below S0 (T4.setTop (mkF m 11 #[.val (.ref q5_0), .val (.ref q5_1), .val (.int q5_2), .val (.int q5_3), .val (.long q5_4), .second, .val (.long q5_5), .second, .val (.ref q5_6), .val (.long q5_7), .second, .val (.int q5_8), .val (.ref q5_9), .val (.int q5_10), .val (.int q5_11), .val (.int q5_12), .val (.int q5_13), .val (.ref q5_14)] [(.int q5_2), (.ref q5_0)])) := fun t k => P4 t (by
    show Steps p.tables e below (T4.setTop (mkF m 9 #[.val (.ref q5_0), .val (.ref q5_1), .val (.int q5_2), .val (.int q5_3), .val (.long q5_4), .second, .val (.long q5_5), .second, .val (.ref q5_6), .val (.long q5_7), .second, .val (.int q5_8), .val (.ref q5_9), .val (.int q5_10), .val (.int q5_11), .val (.int q5_12), .val (.int q5_13), .val (.ref q5_14)] [])) t
    refine XS.aloadN X4.here hx rfl (hb hby d5_9) rfl rfl ?_
    refine XS.iloadN X4.here hx rfl (hb hby d5_10) rfl ?_
    show Steps p.tables e below (T4.setTop (mkF m 11 #[.val (.ref q5_0), .val (.ref q5_1), .val (.int q5_2), .val (.int q5_3), .val (.long q5_4), .second, .val (.long q5_5), .second, .val (.ref q5_6), .val (.long q5_7), .second, .val (.int q5_8), .val (.ref q5_9), .val (.int q5_10), .val (.int q5_11), .val (.int q5_12), .val (.int q5_13), .val (.ref q5_14)] [(.int q5_2), (.ref q5_0)])) t
    exact k)
  obtain ⟨T8, h8, X8, e8, W8, st8⟩ := putF X4 hx hZ hown (host := "") (Or.inl (hw _ (List.mem_of_getElem? (i := 46) rfl))) Via.refl e4 F6 F5 (Or.inr ⟨(hw _ (List.mem_of_getElem? (i := 47) rfl)), rfl, hnm⟩) (hw _ (List.mem_of_getElem? (i := 4) rfl)) (ty := .int) (by decide) rfl rfl (g := (mkF m 11 #[.val (.ref q5_0), .val (.ref q5_1), .val (.int q5_2), .val (.int q5_3), .val (.long q5_4), .second, .val (.long q5_5), .second, .val (.ref q5_6), .val (.long q5_7), .second, .val (.int q5_8), .val (.ref q5_9), .val (.int q5_10), .val (.int q5_11), .val (.int q5_12), .val (.int q5_13), .val (.ref q5_14)] [(.int q5_2), (.ref q5_0)])) rfl rfl (hb hby d5_11)
  have K8 : Keep h0 h8 [q5_0] := K4.wr W8 (Or.inl (by simp))
  have N8 := Fr.snoc X8 N4 g_q5_0
  have F8w : Fld Z h8 q5_0 "com/example/names_for_good/namesforgood/protocol/EncodedValue" "from" "I" (.int q5_2) := F6.same W8
  have P8 : own_Go p e below S0 (T8.setTop (mkF m 14 #[.val (.ref q5_0), .val (.ref q5_1), .val (.int q5_2), .val (.int q5_3), .val (.long q5_4), .second, .val (.long q5_5), .second, .val (.ref q5_6), .val (.long q5_7), .second, .val (.int q5_8), .val (.ref q5_9), .val (.int q5_10), .val (.int q5_11), .val (.int q5_12), .val (.int q5_13), .val (.ref q5_14)] [])) := fun t k => P7 t (st8 _ k)
  have F9 : Exa Z h8 q5_0 "com/example/names_for_good/namesforgood/protocol/EncodedValue" := F5.wr W8
  have F10 : Fld Z h4 q5_0 "com/example/names_for_good/namesforgood/protocol/EncodedValue" "to" "I" u5_q5_0_to := F_q5_0_to.other W4 (Or.inr (slot_ne (Or.inr (hw _ (List.mem_of_getElem? (i := 49) rfl))) (Or.inr (hw _ (List.mem_of_getElem? (i := 45) rfl))) (by decide) (t := .int) (t' := (.array .byte)) (by decide) (by decide)))
  have F11 : Fld Z h8 q5_0 "com/example/names_for_good/namesforgood/protocol/EncodedValue" "to" "I" u5_q5_0_to := F10.other W8 (Or.inr (slot_ne (Or.inr (hw _ (List.mem_of_getElem? (i := 49) rfl))) (Or.inr (hw _ (List.mem_of_getElem? (i := 47) rfl))) (by decide) (t := .int) (t' := .int) (by decide) (by decide)))
  have P12 : own_Go p e below S0 (T8.setTop (mkF m 16 #[.val (.ref q5_0), .val (.ref q5_1), .val (.int q5_2), .val (.int q5_3), .val (.long q5_4), .second, .val (.long q5_5), .second, .val (.ref q5_6), .val (.long q5_7), .second, .val (.int q5_8), .val (.ref q5_9), .val (.int q5_10), .val (.int q5_11), .val (.int q5_12), .val (.int q5_13), .val (.ref q5_14)] [(.int q5_3), (.ref q5_0)])) := fun t k => P8 t (by
    show Steps p.tables e below (T8.setTop (mkF m 14 #[.val (.ref q5_0), .val (.ref q5_1), .val (.int q5_2), .val (.int q5_3), .val (.long q5_4), .second, .val (.long q5_5), .second, .val (.ref q5_6), .val (.long q5_7), .second, .val (.int q5_8), .val (.ref q5_9), .val (.int q5_10), .val (.int q5_11), .val (.int q5_12), .val (.int q5_13), .val (.ref q5_14)] [])) t
    refine XS.aloadN X8.here hx rfl (hb hby d5_14) rfl rfl ?_
    refine XS.iloadN X8.here hx rfl (hb hby d5_15) rfl ?_
    show Steps p.tables e below (T8.setTop (mkF m 16 #[.val (.ref q5_0), .val (.ref q5_1), .val (.int q5_2), .val (.int q5_3), .val (.long q5_4), .second, .val (.long q5_5), .second, .val (.ref q5_6), .val (.long q5_7), .second, .val (.int q5_8), .val (.ref q5_9), .val (.int q5_10), .val (.int q5_11), .val (.int q5_12), .val (.int q5_13), .val (.ref q5_14)] [(.int q5_3), (.ref q5_0)])) t
    exact k)
  obtain ⟨T13, h13, X13, e13, W13, st13⟩ := putF X8 hx hZ hown (host := "") (Or.inl (hw _ (List.mem_of_getElem? (i := 48) rfl))) Via.refl e8 F11 F9 (Or.inr ⟨(hw _ (List.mem_of_getElem? (i := 49) rfl)), rfl, hnm⟩) (hw _ (List.mem_of_getElem? (i := 4) rfl)) (ty := .int) (by decide) rfl rfl (g := (mkF m 16 #[.val (.ref q5_0), .val (.ref q5_1), .val (.int q5_2), .val (.int q5_3), .val (.long q5_4), .second, .val (.long q5_5), .second, .val (.ref q5_6), .val (.long q5_7), .second, .val (.int q5_8), .val (.ref q5_9), .val (.int q5_10), .val (.int q5_11), .val (.int q5_12), .val (.int q5_13), .val (.ref q5_14)] [(.int q5_3), (.ref q5_0)])) rfl rfl (hb hby d5_16)
  have K13 : Keep h0 h13 [q5_0] := K8.wr W13 (Or.inl (by simp))
  have N13 := Fr.snoc X13 N8 g_q5_0
  have F13w : Fld Z h13 q5_0 "com/example/names_for_good/namesforgood/protocol/EncodedValue" "to" "I" (.int q5_3) := F11.same W13
  have P13 : own_Go p e below S0 (T13.setTop (mkF m 19 #[.val (.ref q5_0), .val (.ref q5_1), .val (.int q5_2), .val (.int q5_3), .val (.long q5_4), .second, .val (.long q5_5), .second, .val (.ref q5_6), .val (.long q5_7), .second, .val (.int q5_8), .val (.ref q5_9), .val (.int q5_10), .val (.int q5_11), .val (.int q5_12), .val (.int q5_13), .val (.ref q5_14)] [])) := fun t k => P12 t (st13 _ k)
  have F14 : Exa Z h13 q5_0 "com/example/names_for_good/namesforgood/protocol/EncodedValue" := F9.wr W13
  have F15 : Fld Z h4 q5_0 "com/example/names_for_good/namesforgood/protocol/EncodedValue" "index" "J" u5_q5_0_index := F_q5_0_index.other W4 (Or.inr (slot_ne (Or.inr (hw _ (List.mem_of_getElem? (i := 51) rfl))) (Or.inr (hw _ (List.mem_of_getElem? (i := 45) rfl))) (by decide) (t := .long) (t' := (.array .byte)) (by decide) (by decide)))
  have F16 : Fld Z h8 q5_0 "com/example/names_for_good/namesforgood/protocol/EncodedValue" "index" "J" u5_q5_0_index := F15.other W8 (Or.inr (slot_ne (Or.inr (hw _ (List.mem_of_getElem? (i := 51) rfl))) (Or.inr (hw _ (List.mem_of_getElem? (i := 47) rfl))) (by decide) (t := .long) (t' := .int) (by decide) (by decide)))
  have F17 : Fld Z h13 q5_0 "com/example/names_for_good/namesforgood/protocol/EncodedValue" "index" "J" u5_q5_0_index := F16.other W13 (Or.inr (slot_ne (Or.inr (hw _ (List.mem_of_getElem? (i := 51) rfl))) (Or.inr (hw _ (List.mem_of_getElem? (i := 49) rfl))) (by decide) (t := .long) (t' := .int) (by decide) (by decide)))
  have P18 : own_Go p e below S0 (T13.setTop (mkF m 22 #[.val (.ref q5_0), .val (.ref q5_1), .val (.int q5_2), .val (.int q5_3), .val (.long q5_4), .second, .val (.long q5_5), .second, .val (.ref q5_6), .val (.long q5_7), .second, .val (.int q5_8), .val (.ref q5_9), .val (.int q5_10), .val (.int q5_11), .val (.int q5_12), .val (.int q5_13), .val (.ref q5_14)] [(.long q5_4), (.ref q5_0)])) := fun t k => P13 t (by
    show Steps p.tables e below (T13.setTop (mkF m 19 #[.val (.ref q5_0), .val (.ref q5_1), .val (.int q5_2), .val (.int q5_3), .val (.long q5_4), .second, .val (.long q5_5), .second, .val (.ref q5_6), .val (.long q5_7), .second, .val (.int q5_8), .val (.ref q5_9), .val (.int q5_10), .val (.int q5_11), .val (.int q5_12), .val (.int q5_13), .val (.ref q5_14)] [])) t
    refine XS.aloadN X13.here hx rfl (hb hby d5_19) rfl rfl ?_
    refine XS.lload X13.here hx rfl (hb hby d5_20) rfl ?_
    show Steps p.tables e below (T13.setTop (mkF m 22 #[.val (.ref q5_0), .val (.ref q5_1), .val (.int q5_2), .val (.int q5_3), .val (.long q5_4), .second, .val (.long q5_5), .second, .val (.ref q5_6), .val (.long q5_7), .second, .val (.int q5_8), .val (.ref q5_9), .val (.int q5_10), .val (.int q5_11), .val (.int q5_12), .val (.int q5_13), .val (.ref q5_14)] [(.long q5_4), (.ref q5_0)])) t
    exact k)
  obtain ⟨T19, h19, X19, e19, W19, st19⟩ := putF X13 hx hZ hown (host := "") (Or.inl (hw _ (List.mem_of_getElem? (i := 50) rfl))) Via.refl e13 F17 F14 (Or.inr ⟨(hw _ (List.mem_of_getElem? (i := 51) rfl)), rfl, hnm⟩) (hw _ (List.mem_of_getElem? (i := 4) rfl)) (ty := .long) (by decide) rfl rfl (g := (mkF m 22 #[.val (.ref q5_0), .val (.ref q5_1), .val (.int q5_2), .val (.int q5_3), .val (.long q5_4), .second, .val (.long q5_5), .second, .val (.ref q5_6), .val (.long q5_7), .second, .val (.int q5_8), .val (.ref q5_9), .val (.int q5_10), .val (.int q5_11), .val (.int q5_12), .val (.int q5_13), .val (.ref q5_14)] [(.long q5_4), (.ref q5_0)])) rfl rfl (hb hby d5_22)
  have K19 : Keep h0 h19 [q5_0] := K13.wr W19 (Or.inl (by simp))
  have N19 := Fr.snoc X19 N13 g_q5_0
  have F19w : Fld Z h19 q5_0 "com/example/names_for_good/namesforgood/protocol/EncodedValue" "index" "J" (.long q5_4) := F17.same W19
  have P19 : own_Go p e below S0 (T19.setTop (mkF m 25 #[.val (.ref q5_0), .val (.ref q5_1), .val (.int q5_2), .val (.int q5_3), .val (.long q5_4), .second, .val (.long q5_5), .second, .val (.ref q5_6), .val (.long q5_7), .second, .val (.int q5_8), .val (.ref q5_9), .val (.int q5_10), .val (.int q5_11), .val (.int q5_12), .val (.int q5_13), .val (.ref q5_14)] [])) := fun t k => P18 t (st19 _ k)
  have F20 : Exa Z h19 q5_0 "com/example/names_for_good/namesforgood/protocol/EncodedValue" := F14.wr W19
  have F21 : Fld Z h4 q5_0 "com/example/names_for_good/namesforgood/protocol/EncodedValue" "timestamp" "J" u5_q5_0_timestamp := F_q5_0_timestamp.other W4 (Or.inr (slot_ne (Or.inr (hw _ (List.mem_of_getElem? (i := 53) rfl))) (Or.inr (hw _ (List.mem_of_getElem? (i := 45) rfl))) (by decide) (t := .long) (t' := (.array .byte)) (by decide) (by decide)))
  have F22 : Fld Z h8 q5_0 "com/example/names_for_good/namesforgood/protocol/EncodedValue" "timestamp" "J" u5_q5_0_timestamp := F21.other W8 (Or.inr (slot_ne (Or.inr (hw _ (List.mem_of_getElem? (i := 53) rfl))) (Or.inr (hw _ (List.mem_of_getElem? (i := 47) rfl))) (by decide) (t := .long) (t' := .int) (by decide) (by decide)))
  have F23 : Fld Z h13 q5_0 "com/example/names_for_good/namesforgood/protocol/EncodedValue" "timestamp" "J" u5_q5_0_timestamp := F22.other W13 (Or.inr (slot_ne (Or.inr (hw _ (List.mem_of_getElem? (i := 53) rfl))) (Or.inr (hw _ (List.mem_of_getElem? (i := 49) rfl))) (by decide) (t := .long) (t' := .int) (by decide) (by decide)))
  have F24 : Fld Z h19 q5_0 "com/example/names_for_good/namesforgood/protocol/EncodedValue" "timestamp" "J" u5_q5_0_timestamp := F23.other W19 (Or.inr (slot_ne (Or.inr (hw _ (List.mem_of_getElem? (i := 53) rfl))) (Or.inr (hw _ (List.mem_of_getElem? (i := 51) rfl))) (by decide) (t := .long) (t' := .long) (by decide) (by decide)))
  have P25 : own_Go p e below S0 (T19.setTop (mkF m 28 #[.val (.ref q5_0), .val (.ref q5_1), .val (.int q5_2), .val (.int q5_3), .val (.long q5_4), .second, .val (.long q5_5), .second, .val (.ref q5_6), .val (.long q5_7), .second, .val (.int q5_8), .val (.ref q5_9), .val (.int q5_10), .val (.int q5_11), .val (.int q5_12), .val (.int q5_13), .val (.ref q5_14)] [(.long q5_5), (.ref q5_0)])) := fun t k => P19 t (by
    show Steps p.tables e below (T19.setTop (mkF m 25 #[.val (.ref q5_0), .val (.ref q5_1), .val (.int q5_2), .val (.int q5_3), .val (.long q5_4), .second, .val (.long q5_5), .second, .val (.ref q5_6), .val (.long q5_7), .second, .val (.int q5_8), .val (.ref q5_9), .val (.int q5_10), .val (.int q5_11), .val (.int q5_12), .val (.int q5_13), .val (.ref q5_14)] [])) t
    refine XS.aloadN X19.here hx rfl (hb hby d5_25) rfl rfl ?_
    refine XS.lload X19.here hx rfl (hb hby d5_26) rfl ?_
    show Steps p.tables e below (T19.setTop (mkF m 28 #[.val (.ref q5_0), .val (.ref q5_1), .val (.int q5_2), .val (.int q5_3), .val (.long q5_4), .second, .val (.long q5_5), .second, .val (.ref q5_6), .val (.long q5_7), .second, .val (.int q5_8), .val (.ref q5_9), .val (.int q5_10), .val (.int q5_11), .val (.int q5_12), .val (.int q5_13), .val (.ref q5_14)] [(.long q5_5), (.ref q5_0)])) t
    exact k)
  obtain ⟨T26, h26, X26, e26, W26, st26⟩ := putF X19 hx hZ hown (host := "") (Or.inl (hw _ (List.mem_of_getElem? (i := 52) rfl))) Via.refl e19 F24 F20 (Or.inr ⟨(hw _ (List.mem_of_getElem? (i := 53) rfl)), rfl, hnm⟩) (hw _ (List.mem_of_getElem? (i := 4) rfl)) (ty := .long) (by decide) rfl rfl (g := (mkF m 28 #[.val (.ref q5_0), .val (.ref q5_1), .val (.int q5_2), .val (.int q5_3), .val (.long q5_4), .second, .val (.long q5_5), .second, .val (.ref q5_6), .val (.long q5_7), .second, .val (.int q5_8), .val (.ref q5_9), .val (.int q5_10), .val (.int q5_11), .val (.int q5_12), .val (.int q5_13), .val (.ref q5_14)] [(.long q5_5), (.ref q5_0)])) rfl rfl (hb hby d5_28)
  have K26 : Keep h0 h26 [q5_0] := K19.wr W26 (Or.inl (by simp))
  have N26 := Fr.snoc X26 N19 g_q5_0
  have F26w : Fld Z h26 q5_0 "com/example/names_for_good/namesforgood/protocol/EncodedValue" "timestamp" "J" (.long q5_5) := F24.same W26
  have P26 : own_Go p e below S0 (T26.setTop (mkF m 31 #[.val (.ref q5_0), .val (.ref q5_1), .val (.int q5_2), .val (.int q5_3), .val (.long q5_4), .second, .val (.long q5_5), .second, .val (.ref q5_6), .val (.long q5_7), .second, .val (.int q5_8), .val (.ref q5_9), .val (.int q5_10), .val (.int q5_11), .val (.int q5_12), .val (.int q5_13), .val (.ref q5_14)] [])) := fun t k => P25 t (st26 _ k)
  have F27 : Exa Z h26 q5_0 "com/example/names_for_good/namesforgood/protocol/EncodedValue" := F20.wr W26
  have F28 : Fld Z h4 q5_0 "com/example/names_for_good/namesforgood/protocol/EncodedValue" "ttlType" "Lcom/example/names_for_good/namesforgood/records/HandleValue$TtlType;" u5_q5_0_ttlType := F_q5_0_ttlType.other W4 (Or.inr (slot_ne (Or.inr (hw _ (List.mem_of_getElem? (i := 55) rfl))) (Or.inr (hw _ (List.mem_of_getElem? (i := 45) rfl))) (by decide) (t := (.object "com/example/names_for_good/namesforgood/records/HandleValue$TtlType")) (t' := (.array .byte)) (by decide) (by decide)))
  have F29 : Fld Z h8 q5_0 "com/example/names_for_good/namesforgood/protocol/EncodedValue" "ttlType" "Lcom/example/names_for_good/namesforgood/records/HandleValue$TtlType;" u5_q5_0_ttlType := F28.other W8 (Or.inr (slot_ne (Or.inr (hw _ (List.mem_of_getElem? (i := 55) rfl))) (Or.inr (hw _ (List.mem_of_getElem? (i := 47) rfl))) (by decide) (t := (.object "com/example/names_for_good/namesforgood/records/HandleValue$TtlType")) (t' := .int) (by decide) (by decide)))
  have F30 : Fld Z h13 q5_0 "com/example/names_for_good/namesforgood/protocol/EncodedValue" "ttlType" "Lcom/example/names_for_good/namesforgood/records/HandleValue$TtlType;" u5_q5_0_ttlType := F29.other W13 (Or.inr (slot_ne (Or.inr (hw _ (List.mem_of_getElem? (i := 55) rfl))) (Or.inr (hw _ (List.mem_of_getElem? (i := 49) rfl))) (by decide) (t := (.object "com/example/names_for_good/namesforgood/records/HandleValue$TtlType")) (t' := .int) (by decide) (by decide)))
  have F31 : Fld Z h19 q5_0 "com/example/names_for_good/namesforgood/protocol/EncodedValue" "ttlType" "Lcom/example/names_for_good/namesforgood/records/HandleValue$TtlType;" u5_q5_0_ttlType := F30.other W19 (Or.inr (slot_ne (Or.inr (hw _ (List.mem_of_getElem? (i := 55) rfl))) (Or.inr (hw _ (List.mem_of_getElem? (i := 51) rfl))) (by decide) (t := (.object "com/example/names_for_good/namesforgood/records/HandleValue$TtlType")) (t' := .long) (by decide) (by decide)))
  have F32 : Fld Z h26 q5_0 "com/example/names_for_good/namesforgood/protocol/EncodedValue" "ttlType" "Lcom/example/names_for_good/namesforgood/records/HandleValue$TtlType;" u5_q5_0_ttlType := F31.other W26 (Or.inr (slot_ne (Or.inr (hw _ (List.mem_of_getElem? (i := 55) rfl))) (Or.inr (hw _ (List.mem_of_getElem? (i := 53) rfl))) (by decide) (t := (.object "com/example/names_for_good/namesforgood/records/HandleValue$TtlType")) (t' := .long) (by decide) (by decide)))
  have P33 : own_Go p e below S0 (T26.setTop (mkF m 34 #[.val (.ref q5_0), .val (.ref q5_1), .val (.int q5_2), .val (.int q5_3), .val (.long q5_4), .second, .val (.long q5_5), .second, .val (.ref q5_6), .val (.long q5_7), .second, .val (.int q5_8), .val (.ref q5_9), .val (.int q5_10), .val (.int q5_11), .val (.int q5_12), .val (.int q5_13), .val (.ref q5_14)] [(.ref q5_6), (.ref q5_0)])) := fun t k => P26 t (by
    show Steps p.tables e below (T26.setTop (mkF m 31 #[.val (.ref q5_0), .val (.ref q5_1), .val (.int q5_2), .val (.int q5_3), .val (.long q5_4), .second, .val (.long q5_5), .second, .val (.ref q5_6), .val (.long q5_7), .second, .val (.int q5_8), .val (.ref q5_9), .val (.int q5_10), .val (.int q5_11), .val (.int q5_12), .val (.int q5_13), .val (.ref q5_14)] [])) t
    refine XS.aloadN X26.here hx rfl (hb hby d5_31) rfl rfl ?_
    refine XS.aload X26.here hx rfl (hb hby d5_32) rfl rfl ?_
    show Steps p.tables e below (T26.setTop (mkF m 34 #[.val (.ref q5_0), .val (.ref q5_1), .val (.int q5_2), .val (.int q5_3), .val (.long q5_4), .second, .val (.long q5_5), .second, .val (.ref q5_6), .val (.long q5_7), .second, .val (.int q5_8), .val (.ref q5_9), .val (.int q5_10), .val (.int q5_11), .val (.int q5_12), .val (.int q5_13), .val (.ref q5_14)] [(.ref q5_6), (.ref q5_0)])) t
    exact k)
  obtain ⟨T34, h34, X34, e34, W34, st34⟩ := putF X26 hx hZ hown (host := "") (Or.inl (hw _ (List.mem_of_getElem? (i := 54) rfl))) Via.refl e26 F32 F27 (Or.inr ⟨(hw _ (List.mem_of_getElem? (i := 55) rfl)), rfl, hnm⟩) (hw _ (List.mem_of_getElem? (i := 4) rfl)) (ty := (.object "com/example/names_for_good/namesforgood/records/HandleValue$TtlType")) (by decide) rfl rfl (g := (mkF m 34 #[.val (.ref q5_0), .val (.ref q5_1), .val (.int q5_2), .val (.int q5_3), .val (.long q5_4), .second, .val (.long q5_5), .second, .val (.ref q5_6), .val (.long q5_7), .second, .val (.int q5_8), .val (.ref q5_9), .val (.int q5_10), .val (.int q5_11), .val (.int q5_12), .val (.int q5_13), .val (.ref q5_14)] [(.ref q5_6), (.ref q5_0)])) rfl rfl (hb hby d5_34)
  have K34 : Keep h0 h34 [q5_0] := K26.wr W34 (Or.inl (by simp))
  have N34 := Fr.snoc X34 N26 g_q5_0
  have F34w : Fld Z h34 q5_0 "com/example/names_for_good/namesforgood/protocol/EncodedValue" "ttlType" "Lcom/example/names_for_good/namesforgood/records/HandleValue$TtlType;" (.ref q5_6) := F32.same W34
  have P34 : own_Go p e below S0 (T34.setTop (mkF m 37 #[.val (.ref q5_0), .val (.ref q5_1), .val (.int q5_2), .val (.int q5_3), .val (.long q5_4), .second, .val (.long q5_5), .second, .val (.ref q5_6), .val (.long q5_7), .second, .val (.int q5_8), .val (.ref q5_9), .val (.int q5_10), .val (.int q5_11), .val (.int q5_12), .val (.int q5_13), .val (.ref q5_14)] [])) := fun t k => P33 t (st34 _ k)
  have F35 : Exa Z h34 q5_0 "com/example/names_for_good/namesforgood/protocol/EncodedValue" := F27.wr W34
  have F36 : Fld Z h4 q5_0 "com/example/names_for_good/namesforgood/protocol/EncodedValue" "ttl" "J" u5_q5_0_ttl := F_q5_0_ttl.other W4 (Or.inr (slot_ne (Or.inr (hw _ (List.mem_of_getElem? (i := 57) rfl))) (Or.inr (hw _ (List.mem_of_getElem? (i := 45) rfl))) (by decide) (t := .long) (t' := (.array .byte)) (by decide) (by decide)))
  have F37 : Fld Z h8 q5_0 "com/example/names_for_good/namesforgood/protocol/EncodedValue" "ttl" "J" u5_q5_0_ttl := F36.other W8 (Or.inr (slot_ne (Or.inr (hw _ (List.mem_of_getElem? (i := 57) rfl))) (Or.inr (hw _ (List.mem_of_getElem? (i := 47) rfl))) (by decide) (t := .long) (t' := .int) (by decide) (by decide)))
  have F38 : Fld Z h13 q5_0 "com/example/names_for_good/namesforgood/protocol/EncodedValue" "ttl" "J" u5_q5_0_ttl := F37.other W13 (Or.inr (slot_ne (Or.inr (hw _ (List.mem_of_getElem? (i := 57) rfl))) (Or.inr (hw _ (List.mem_of_getElem? (i := 49) rfl))) (by decide) (t := .long) (t' := .int) (by decide) (by decide)))
  have F39 : Fld Z h19 q5_0 "com/example/names_for_good/namesforgood/protocol/EncodedValue" "ttl" "J" u5_q5_0_ttl := F38.other W19 (Or.inr (slot_ne (Or.inr (hw _ (List.mem_of_getElem? (i := 57) rfl))) (Or.inr (hw _ (List.mem_of_getElem? (i := 51) rfl))) (by decide) (t := .long) (t' := .long) (by decide) (by decide)))
  have F40 : Fld Z h26 q5_0 "com/example/names_for_good/namesforgood/protocol/EncodedValue" "ttl" "J" u5_q5_0_ttl := F39.other W26 (Or.inr (slot_ne (Or.inr (hw _ (List.mem_of_getElem? (i := 57) rfl))) (Or.inr (hw _ (List.mem_of_getElem? (i := 53) rfl))) (by decide) (t := .long) (t' := .long) (by decide) (by decide)))
  have F41 : Fld Z h34 q5_0 "com/example/names_for_good/namesforgood/protocol/EncodedValue" "ttl" "J" u5_q5_0_ttl := F40.other W34 (Or.inr (slot_ne (Or.inr (hw _ (List.mem_of_getElem? (i := 57) rfl))) (Or.inr (hw _ (List.mem_of_getElem? (i := 55) rfl))) (by decide) (t := .long) (t' := (.object "com/example/names_for_good/namesforgood/records/HandleValue$TtlType")) (by decide) (by decide)))
  have P42 : own_Go p e below S0 (T34.setTop (mkF m 40 #[.val (.ref q5_0), .val (.ref q5_1), .val (.int q5_2), .val (.int q5_3), .val (.long q5_4), .second, .val (.long q5_5), .second, .val (.ref q5_6), .val (.long q5_7), .second, .val (.int q5_8), .val (.ref q5_9), .val (.int q5_10), .val (.int q5_11), .val (.int q5_12), .val (.int q5_13), .val (.ref q5_14)] [(.long q5_7), (.ref q5_0)])) := fun t k => P34 t (by
    show Steps p.tables e below (T34.setTop (mkF m 37 #[.val (.ref q5_0), .val (.ref q5_1), .val (.int q5_2), .val (.int q5_3), .val (.long q5_4), .second, .val (.long q5_5), .second, .val (.ref q5_6), .val (.long q5_7), .second, .val (.int q5_8), .val (.ref q5_9), .val (.int q5_10), .val (.int q5_11), .val (.int q5_12), .val (.int q5_13), .val (.ref q5_14)] [])) t
    refine XS.aloadN X34.here hx rfl (hb hby d5_37) rfl rfl ?_
    refine XS.lload X34.here hx rfl (hb hby d5_38) rfl ?_
    show Steps p.tables e below (T34.setTop (mkF m 40 #[.val (.ref q5_0), .val (.ref q5_1), .val (.int q5_2), .val (.int q5_3), .val (.long q5_4), .second, .val (.long q5_5), .second, .val (.ref q5_6), .val (.long q5_7), .second, .val (.int q5_8), .val (.ref q5_9), .val (.int q5_10), .val (.int q5_11), .val (.int q5_12), .val (.int q5_13), .val (.ref q5_14)] [(.long q5_7), (.ref q5_0)])) t
    exact k)
  obtain ⟨T43, h43, X43, e43, W43, st43⟩ := putF X34 hx hZ hown (host := "") (Or.inl (hw _ (List.mem_of_getElem? (i := 56) rfl))) Via.refl e34 F41 F35 (Or.inr ⟨(hw _ (List.mem_of_getElem? (i := 57) rfl)), rfl, hnm⟩) (hw _ (List.mem_of_getElem? (i := 4) rfl)) (ty := .long) (by decide) rfl rfl (g := (mkF m 40 #[.val (.ref q5_0), .val (.ref q5_1), .val (.int q5_2), .val (.int q5_3), .val (.long q5_4), .second, .val (.long q5_5), .second, .val (.ref q5_6), .val (.long q5_7), .second, .val (.int q5_8), .val (.ref q5_9), .val (.int q5_10), .val (.int q5_11), .val (.int q5_12), .val (.int q5_13), .val (.ref q5_14)] [(.long q5_7), (.ref q5_0)])) rfl rfl (hb hby d5_40)
  have K43 : Keep h0 h43 [q5_0] := K34.wr W43 (Or.inl (by simp))
  have N43 := Fr.snoc X43 N34 g_q5_0
  have F43w : Fld Z h43 q5_0 "com/example/names_for_good/namesforgood/protocol/EncodedValue" "ttl" "J" (.long q5_7) := F41.same W43
  have P43 : own_Go p e below S0 (T43.setTop (mkF m 43 #[.val (.ref q5_0), .val (.ref q5_1), .val (.int q5_2), .val (.int q5_3), .val (.long q5_4), .second, .val (.long q5_5), .second, .val (.ref q5_6), .val (.long q5_7), .second, .val (.int q5_8), .val (.ref q5_9), .val (.int q5_10), .val (.int q5_11), .val (.int q5_12), .val (.int q5_13), .val (.ref q5_14)] [])) := fun t k => P42 t (st43 _ k)
  have F44 : Exa Z h43 q5_0 "com/example/names_for_good/namesforgood/protocol/EncodedValue" := F35.wr W43
  have F45 : Fld Z h4 q5_0 "com/example/names_for_good/namesforgood/protocol/EncodedValue" "permissions" "I" u5_q5_0_permissions := F_q5_0_permissions.other W4 (Or.inr (slot_ne (Or.inr (hw _ (List.mem_of_getElem? (i := 59) rfl))) (Or.inr (hw _ (List.mem_of_getElem? (i := 45) rfl))) (by decide) (t := .int) (t' := (.array .byte)) (by decide) (by decide)))
  have F46 : Fld Z h8 q5_0 "com/example/names_for_good/namesforgood/protocol/EncodedValue" "permissions" "I" u5_q5_0_permissions := F45.other W8 (Or.inr (slot_ne (Or.inr (hw _ (List.mem_of_getElem? (i := 59) rfl))) (Or.inr (hw _ (List.mem_of_getElem? (i := 47) rfl))) (by decide) (t := .int) (t' := .int) (by decide) (by decide)))
  have F47 : Fld Z h13 q5_0 "com/example/names_for_good/namesforgood/protocol/EncodedValue" "permissions" "I" u5_q5_0_permissions := F46.other W13 (Or.inr (slot_ne (Or.inr (hw _ (List.mem_of_getElem? (i := 59) rfl))) (Or.inr (hw _ (List.mem_of_getElem? (i := 49) rfl))) (by decide) (t := .int) (t' := .int) (by decide) (by decide)))
  have F48 : Fld Z h19 q5_0 "com/example/names_for_good/namesforgood/protocol/EncodedValue" "permissions" "I" u5_q5_0_permissions := F47.other W19 (Or.inr (slot_ne (Or.inr (hw _ (List.mem_of_getElem? (i := 59) rfl))) (Or.inr (hw _ (List.mem_of_getElem? (i := 51) rfl))) (by decide) (t := .int) (t' := .long) (by decide) (by decide)))
  have F49 : Fld Z h26 q5_0 "com/example/names_for_good/namesforgood/protocol/EncodedValue" "permissions" "I" u5_q5_0_permissions := F48.other W26 (Or.inr (slot_ne (Or.inr (hw _ (List.mem_of_getElem? (i := 59) rfl))) (Or.inr (hw _ (List.mem_of_getElem? (i := 53) rfl))) (by decide) (t := .int) (t' := .long) (by decide) (by decide)))
  have F50 : Fld Z h34 q5_0 "com/example/names_for_good/namesforgood/protocol/EncodedValue" "permissions" "I" u5_q5_0_permissions := F49.other W34 (Or.inr (slot_ne (Or.inr (hw _ (List.mem_of_getElem? (i := 59) rfl))) (Or.inr (hw _ (List.mem_of_getElem? (i := 55) rfl))) (by decide) (t := .int) (t' := (.object "com/example/names_for_good/namesforgood/records/HandleValue$TtlType")) (by decide) (by decide)))
  have F51 : Fld Z h43 q5_0 "com/example/names_for_good/namesforgood/protocol/EncodedValue" "permissions" "I" u5_q5_0_permissions := F50.other W43 (Or.inr (slot_ne (Or.inr (hw _ (List.mem_of_getElem? (i := 59) rfl))) (Or.inr (hw _ (List.mem_of_getElem? (i := 57) rfl))) (by decide) (t := .int) (t' := .long) (by decide) (by decide)))
  have P52 : own_Go p e below S0 (T43.setTop (mkF m 46 #[.val (.ref q5_0), .val (.ref q5_1), .val (.int q5_2), .val (.int q5_3), .val (.long q5_4), .second, .val (.long q5_5), .second, .val (.ref q5_6), .val (.long q5_7), .second, .val (.int q5_8), .val (.ref q5_9), .val (.int q5_10), .val (.int q5_11), .val (.int q5_12), .val (.int q5_13), .val (.ref q5_14)] [(.int q5_8), (.ref q5_0)])) := fun t k => P43 t (by
    show Steps p.tables e below (T43.setTop (mkF m 43 #[.val (.ref q5_0), .val (.ref q5_1), .val (.int q5_2), .val (.int q5_3), .val (.long q5_4), .second, .val (.long q5_5), .second, .val (.ref q5_6), .val (.long q5_7), .second, .val (.int q5_8), .val (.ref q5_9), .val (.int q5_10), .val (.int q5_11), .val (.int q5_12), .val (.int q5_13), .val (.ref q5_14)] [])) t
    refine XS.aloadN X43.here hx rfl (hb hby d5_43) rfl rfl ?_
    refine XS.iload X43.here hx rfl (hb hby d5_44) rfl ?_
    show Steps p.tables e below (T43.setTop (mkF m 46 #[.val (.ref q5_0), .val (.ref q5_1), .val (.int q5_2), .val (.int q5_3), .val (.long q5_4), .second, .val (.long q5_5), .second, .val (.ref q5_6), .val (.long q5_7), .second, .val (.int q5_8), .val (.ref q5_9), .val (.int q5_10), .val (.int q5_11), .val (.int q5_12), .val (.int q5_13), .val (.ref q5_14)] [(.int q5_8), (.ref q5_0)])) t
    exact k)
  obtain ⟨T53, h53, X53, e53, W53, st53⟩ := putF X43 hx hZ hown (host := "") (Or.inl (hw _ (List.mem_of_getElem? (i := 58) rfl))) Via.refl e43 F51 F44 (Or.inr ⟨(hw _ (List.mem_of_getElem? (i := 59) rfl)), rfl, hnm⟩) (hw _ (List.mem_of_getElem? (i := 4) rfl)) (ty := .int) (by decide) rfl rfl (g := (mkF m 46 #[.val (.ref q5_0), .val (.ref q5_1), .val (.int q5_2), .val (.int q5_3), .val (.long q5_4), .second, .val (.long q5_5), .second, .val (.ref q5_6), .val (.long q5_7), .second, .val (.int q5_8), .val (.ref q5_9), .val (.int q5_10), .val (.int q5_11), .val (.int q5_12), .val (.int q5_13), .val (.ref q5_14)] [(.int q5_8), (.ref q5_0)])) rfl rfl (hb hby d5_46)
  have K53 : Keep h0 h53 [q5_0] := K43.wr W53 (Or.inl (by simp))
  have N53 := Fr.snoc X53 N43 g_q5_0
  have F53w : Fld Z h53 q5_0 "com/example/names_for_good/namesforgood/protocol/EncodedValue" "permissions" "I" (.int q5_8) := F51.same W53
  have P53 : own_Go p e below S0 (T53.setTop (mkF m 49 #[.val (.ref q5_0), .val (.ref q5_1), .val (.int q5_2), .val (.int q5_3), .val (.long q5_4), .second, .val (.long q5_5), .second, .val (.ref q5_6), .val (.long q5_7), .second, .val (.int q5_8), .val (.ref q5_9), .val (.int q5_10), .val (.int q5_11), .val (.int q5_12), .val (.int q5_13), .val (.ref q5_14)] [])) := fun t k => P52 t (st53 _ k)
  have F54 : Exa Z h53 q5_0 "com/example/names_for_good/namesforgood/protocol/EncodedValue" := F44.wr W53
  have F55 : Fld Z h4 q5_0 "com/example/names_for_good/namesforgood/protocol/EncodedValue" "type" "Ljava/lang/String;" u5_q5_0_type := F_q5_0_type.other W4 (Or.inr (slot_ne (Or.inr (hw _ (List.mem_of_getElem? (i := 61) rfl))) (Or.inr (hw _ (List.mem_of_getElem? (i := 45) rfl))) (by decide) (t := (.object "java/lang/String")) (t' := (.array .byte)) (by decide) (by decide)))
  have F56 : Fld Z h8 q5_0 "com/example/names_for_good/namesforgood/protocol/EncodedValue" "type" "Ljava/lang/String;" u5_q5_0_type := F55.other W8 (Or.inr (slot_ne (Or.inr (hw _ (List.mem_of_getElem? (i := 61) rfl))) (Or.inr (hw _ (List.mem_of_getElem? (i := 47) rfl))) (by decide) (t := (.object "java/lang/String")) (t' := .int) (by decide) (by decide)))
  have F57 : Fld Z h13 q5_0 "com/example/names_for_good/namesforgood/protocol/EncodedValue" "type" "Ljava/lang/String;" u5_q5_0_type := F56.other W13 (Or.inr (slot_ne (Or.inr (hw _ (List.mem_of_getElem? (i := 61) rfl))) (Or.inr (hw _ (List.mem_of_getElem? (i := 49) rfl))) (by decide) (t := (.object "java/lang/String")) (t' := .int) (by decide) (by decide)))
  have F58 : Fld Z h19 q5_0 "com/example/names_for_good/namesforgood/protocol/EncodedValue" "type" "Ljava/lang/String;" u5_q5_0_type := F57.other W19 (Or.inr (slot_ne (Or.inr (hw _ (List.mem_of_getElem? (i := 61) rfl))) (Or.inr (hw _ (List.mem_of_getElem? (i := 51) rfl))) (by decide) (t := (.object "java/lang/String")) (t' := .long) (by decide) (by decide)))
  have F59 : Fld Z h26 q5_0 "com/example/names_for_good/namesforgood/protocol/EncodedValue" "type" "Ljava/lang/String;" u5_q5_0_type := F58.other W26 (Or.inr (slot_ne (Or.inr (hw _ (List.mem_of_getElem? (i := 61) rfl))) (Or.inr (hw _ (List.mem_of_getElem? (i := 53) rfl))) (by decide) (t := (.object "java/lang/String")) (t' := .long) (by decide) (by decide)))
  have F60 : Fld Z h34 q5_0 "com/example/names_for_good/namesforgood/protocol/EncodedValue" "type" "Ljava/lang/String;" u5_q5_0_type := F59.other W34 (Or.inr (slot_ne (Or.inr (hw _ (List.mem_of_getElem? (i := 61) rfl))) (Or.inr (hw _ (List.mem_of_getElem? (i := 55) rfl))) (by decide) (t := (.object "java/lang/String")) (t' := (.object "com/example/names_for_good/namesforgood/records/HandleValue$TtlType")) (by decide) (by decide)))
  have F61 : Fld Z h43 q5_0 "com/example/names_for_good/namesforgood/protocol/EncodedValue" "type" "Ljava/lang/String;" u5_q5_0_type := F60.other W43 (Or.inr (slot_ne (Or.inr (hw _ (List.mem_of_getElem? (i := 61) rfl))) (Or.inr (hw _ (List.mem_of_getElem? (i := 57) rfl))) (by decide) (t := (.object "java/lang/String")) (t' := .long) (by decide) (by decide)))
  have F62 : Fld Z h53 q5_0 "com/example/names_for_good/namesforgood/protocol/EncodedValue" "type" "Ljava/lang/String;" u5_q5_0_type := F61.other W53 (Or.inr (slot_ne (Or.inr (hw _ (List.mem_of_getElem? (i := 61) rfl))) (Or.inr (hw _ (List.mem_of_getElem? (i := 59) rfl))) (by decide) (t := (.object "java/lang/String")) (t' := .int) (by decide) (by decide)))
  have P63 : own_Go p e below S0 (T53.setTop (mkF m 52 #[.val (.ref q5_0), .val (.ref q5_1), .val (.int q5_2), .val (.int q5_3), .val (.long q5_4), .second, .val (.long q5_5), .second, .val (.ref q5_6), .val (.long q5_7), .second, .val (.int q5_8), .val (.ref q5_9), .val (.int q5_10), .val (.int q5_11), .val (.int q5_12), .val (.int q5_13), .val (.ref q5_14)] [(.ref q5_9), (.ref q5_0)])) := fun t k => P53 t (by
    show Steps p.tables e below (T53.setTop (mkF m 49 #[.val (.ref q5_0), .val (.ref q5_1), .val (.int q5_2), .val (.int q5_3), .val (.long q5_4), .second, .val (.long q5_5), .second, .val (.ref q5_6), .val (.long q5_7), .second, .val (.int q5_8), .val (.ref q5_9), .val (.int q5_10), .val (.int q5_11), .val (.int q5_12), .val (.int q5_13), .val (.ref q5_14)] [])) t
    refine XS.aloadN X53.here hx rfl (hb hby d5_49) rfl rfl ?_
    refine XS.aload X53.here hx rfl (hb hby d5_50) rfl rfl ?_
    show Steps p.tables e below (T53.setTop (mkF m 52 #[.val (.ref q5_0), .val (.ref q5_1), .val (.int q5_2), .val (.int q5_3), .val (.long q5_4), .second, .val (.long q5_5), .second, .val (.ref q5_6), .val (.long q5_7), .second, .val (.int q5_8), .val (.ref q5_9), .val (.int q5_10), .val (.int q5_11), .val (.int q5_12), .val (.int q5_13), .val (.ref q5_14)] [(.ref q5_9), (.ref q5_0)])) t
    exact k)
  obtain ⟨T64, h64, X64, e64, W64, st64⟩ := putF X53 hx hZ hown (host := "") (Or.inl (hw _ (List.mem_of_getElem? (i := 60) rfl))) Via.refl e53 F62 F54 (Or.inr ⟨(hw _ (List.mem_of_getElem? (i := 61) rfl)), rfl, hnm⟩) (hw _ (List.mem_of_getElem? (i := 4) rfl)) (ty := (.object "java/lang/String")) (by decide) rfl rfl (g := (mkF m 52 #[.val (.ref q5_0), .val (.ref q5_1), .val (.int q5_2), .val (.int q5_3), .val (.long q5_4), .second, .val (.long q5_5), .second, .val (.ref q5_6), .val (.long q5_7), .second, .val (.int q5_8), .val (.ref q5_9), .val (.int q5_10), .val (.int q5_11), .val (.int q5_12), .val (.int q5_13), .val (.ref q5_14)] [(.ref q5_9), (.ref q5_0)])) rfl rfl (hb hby d5_52)
  have K64 : Keep h0 h64 [q5_0] := K53.wr W64 (Or.inl (by simp))
  have N64 := Fr.snoc X64 N53 g_q5_0
  have F64w : Fld Z h64 q5_0 "com/example/names_for_good/namesforgood/protocol/EncodedValue" "type" "Ljava/lang/String;" (.ref q5_9) := F62.same W64
  have P64 : own_Go p e below S0 (T64.setTop (mkF m 55 #[.val (.ref q5_0), .val (.ref q5_1), .val (.int q5_2), .val (.int q5_3), .val (.long q5_4), .second, .val (.long q5_5), .second, .val (.ref q5_6), .val (.long q5_7), .second, .val (.int q5_8), .val (.ref q5_9), .val (.int q5_10), .val (.int q5_11), .val (.int q5_12), .val (.int q5_13), .val (.ref q5_14)] [])) := fun t k => P63 t (st64 _ k)
  have F65 : Exa Z h64 q5_0 "com/example/names_for_good/namesforgood/protocol/EncodedValue" := F54.wr W64
  have F66 : Fld Z h4 q5_0 "com/example/names_for_good/namesforgood/protocol/EncodedValue" "typeFrom" "I" u5_q5_0_typeFrom := F_q5_0_typeFrom.other W4 (Or.inr (slot_ne (Or.inr (hw _ (List.mem_of_getElem? (i := 63) rfl))) (Or.inr (hw _ (List.mem_of_getElem? (i := 45) rfl))) (by decide) (t := .int) (t' := (.array .byte)) (by decide) (by decide)))
  have F67 : Fld Z h8 q5_0 "com/example/names_for_good/namesforgood/protocol/EncodedValue" "typeFrom" "I" u5_q5_0_typeFrom := F66.other W8 (Or.inr (slot_ne (Or.inr (hw _ (List.mem_of_getElem? (i := 63) rfl))) (Or.inr (hw _ (List.mem_of_getElem? (i := 47) rfl))) (by decide) (t := .int) (t' := .int) (by decide) (by decide)))
  have F68 : Fld Z h13 q5_0 "com/example/names_for_good/namesforgood/protocol/EncodedValue" "typeFrom" "I" u5_q5_0_typeFrom := F67.other W13 (Or.inr (slot_ne (Or.inr (hw _ (List.mem_of_getElem? (i := 63) rfl))) (Or.inr (hw _ (List.mem_of_getElem? (i := 49) rfl))) (by decide) (t := .int) (t' := .int) (by decide) (by decide)))
  have F69 : Fld Z h19 q5_0 "com/example/names_for_good/namesforgood/protocol/EncodedValue" "typeFrom" "I" u5_q5_0_typeFrom := F68.other W19 (Or.inr (slot_ne (Or.inr (hw _ (List.mem_of_getElem? (i := 63) rfl))) (Or.inr (hw _ (List.mem_of_getElem? (i := 51) rfl))) (by decide) (t := .int) (t' := .long) (by decide) (by decide)))
  have F70 : Fld Z h26 q5_0 "com/example/names_for_good/namesforgood/protocol/EncodedValue" "typeFrom" "I" u5_q5_0_typeFrom := F69.other W26 (Or.inr (slot_ne (Or.inr (hw _ (List.mem_of_getElem? (i := 63) rfl))) (Or.inr (hw _ (List.mem_of_getElem? (i := 53) rfl))) (by decide) (t := .int) (t' := .long) (by decide) (by decide)))
  have F71 : Fld Z h34 q5_0 "com/example/names_for_good/namesforgood/protocol/EncodedValue" "typeFrom" "I" u5_q5_0_typeFrom := F70.other W34 (Or.inr (slot_ne (Or.inr (hw _ (List.mem_of_getElem? (i := 63) rfl))) (Or.inr (hw _ (List.mem_of_getElem? (i := 55) rfl))) (by decide) (t := .int) (t' := (.object "com/example/names_for_good/namesforgood/records/HandleValue$TtlType")) (by decide) (by decide)))
  have F72 : Fld Z h43 q5_0 "com/example/names_for_good/namesforgood/protocol/EncodedValue" "typeFrom" "I" u5_q5_0_typeFrom := F71.other W43 (Or.inr (slot_ne (Or.inr (hw _ (List.mem_of_getElem? (i := 63) rfl))) (Or.inr (hw _ (List.mem_of_getElem? (i := 57) rfl))) (by decide) (t := .int) (t' := .long) (by decide) (by decide)))
  have F73 : Fld Z h53 q5_0 "com/example/names_for_good/namesforgood/protocol/EncodedValue" "typeFrom" "I" u5_q5_0_typeFrom := F72.other W53 (Or.inr (slot_ne (Or.inr (hw _ (List.mem_of_getElem? (i := 63) rfl))) (Or.inr (hw _ (List.mem_of_getElem? (i := 59) rfl))) (by decide) (t := .int) (t' := .int) (by decide) (by decide)))
  have F74 : Fld Z h64 q5_0 "com/example/names_for_good/namesforgood/protocol/EncodedValue" "typeFrom" "I" u5_q5_0_typeFrom := F73.other W64 (Or.inr (slot_ne (Or.inr (hw _ (List.mem_of_getElem? (i := 63) rfl))) (Or.inr (hw _ (List.mem_of_getElem? (i := 61) rfl))) (by decide) (t := .int) (t' := (.object "java/lang/String")) (by decide) (by decide)))
  have P75 : own_Go p e below S0 (T64.setTop (mkF m 58 #[.val (.ref q5_0), .val (.ref q5_1), .val (.int q5_2), .val (.int q5_3), .val (.long q5_4), .second, .val (.long q5_5), .second, .val (.ref q5_6), .val (.long q5_7), .second, .val (.int q5_8), .val (.ref q5_9), .val (.int q5_10), .val (.int q5_11), .val (.int q5_12), .val (.int q5_13), .val (.ref q5_14)] [(.int q5_10), (.ref q5_0)])) := fun t k => P64 t (by
    show Steps p.tables e below (T64.setTop (mkF m 55 #[.val (.ref q5_0), .val (.ref q5_1), .val (.int q5_2), .val (.int q5_3), .val (.long q5_4), .second, .val (.long q5_5), .second, .val (.ref q5_6), .val (.long q5_7), .second, .val (.int q5_8), .val (.ref q5_9), .val (.int q5_10), .val (.int q5_11), .val (.int q5_12), .val (.int q5_13), .val (.ref q5_14)] [])) t
    refine XS.aloadN X64.here hx rfl (hb hby d5_55) rfl rfl ?_
    refine XS.iload X64.here hx rfl (hb hby d5_56) rfl ?_
    show Steps p.tables e below (T64.setTop (mkF m 58 #[.val (.ref q5_0), .val (.ref q5_1), .val (.int q5_2), .val (.int q5_3), .val (.long q5_4), .second, .val (.long q5_5), .second, .val (.ref q5_6), .val (.long q5_7), .second, .val (.int q5_8), .val (.ref q5_9), .val (.int q5_10), .val (.int q5_11), .val (.int q5_12), .val (.int q5_13), .val (.ref q5_14)] [(.int q5_10), (.ref q5_0)])) t
    exact k)
  obtain ⟨T76, h76, X76, e76, W76, st76⟩ := putF X64 hx hZ hown (host := "") (Or.inl (hw _ (List.mem_of_getElem? (i := 62) rfl))) Via.refl e64 F74 F65 (Or.inr ⟨(hw _ (List.mem_of_getElem? (i := 63) rfl)), rfl, hnm⟩) (hw _ (List.mem_of_getElem? (i := 4) rfl)) (ty := .int) (by decide) rfl rfl (g := (mkF m 58 #[.val (.ref q5_0), .val (.ref q5_1), .val (.int q5_2), .val (.int q5_3), .val (.long q5_4), .second, .val (.long q5_5), .second, .val (.ref q5_6), .val (.long q5_7), .second, .val (.int q5_8), .val (.ref q5_9), .val (.int q5_10), .val (.int q5_11), .val (.int q5_12), .val (.int q5_13), .val (.ref q5_14)] [(.int q5_10), (.ref q5_0)])) rfl rfl (hb hby d5_58)
  have K76 : Keep h0 h76 [q5_0] := K64.wr W76 (Or.inl (by simp))
  have N76 := Fr.snoc X76 N64 g_q5_0
  have F76w : Fld Z h76 q5_0 "com/example/names_for_good/namesforgood/protocol/EncodedValue" "typeFrom" "I" (.int q5_10) := F74.same W76
  have P76 : own_Go p e below S0 (T76.setTop (mkF m 61 #[.val (.ref q5_0), .val (.ref q5_1), .val (.int q5_2), .val (.int q5_3), .val (.long q5_4), .second, .val (.long q5_5), .second, .val (.ref q5_6), .val (.long q5_7), .second, .val (.int q5_8), .val (.ref q5_9), .val (.int q5_10), .val (.int q5_11), .val (.int q5_12), .val (.int q5_13), .val (.ref q5_14)] [])) := fun t k => P75 t (st76 _ k)
  have F77 : Exa Z h76 q5_0 "com/example/names_for_good/namesforgood/protocol/EncodedValue" := F65.wr W76
  have F78 : Fld Z h4 q5_0 "com/example/names_for_good/namesforgood/protocol/EncodedValue" "typeLength" "I" u5_q5_0_typeLength := F_q5_0_typeLength.other W4 (Or.inr (slot_ne (Or.inr (hw _ (List.mem_of_getElem? (i := 65) rfl))) (Or.inr (hw _ (List.mem_of_getElem? (i := 45) rfl))) (by decide) (t := .int) (t' := (.array .byte)) (by decide) (by decide)))
  have F79 : Fld Z h8 q5_0 "com/example/names_for_good/namesforgood/protocol/EncodedValue" "typeLength" "I" u5_q5_0_typeLength := F78.other W8 (Or.inr (slot_ne (Or.inr (hw _ (List.mem_of_getElem? (i := 65) rfl))) (Or.inr (hw _ (List.mem_of_getElem? (i := 47) rfl))) (by decide) (t := .int) (t' := .int) (by decide) (by decide)))
  have F80 : Fld Z h13 q5_0 "com/example/names_for_good/namesforgood/protocol/EncodedValue" "typeLength" "I" u5_q5_0_typeLength := F79.other W13 (Or.inr (slot_ne (Or.inr (hw _ (List.mem_of_getElem? (i := 65) rfl))) (Or.inr (hw _ (List.mem_of_getElem? (i := 49) rfl))) (by decide) (t := .int) (t' := .int) (by decide) (by decide)))
  have F81 : Fld Z h19 q5_0 "com/example/names_for_good/namesforgood/protocol/EncodedValue" "typeLength" "I" u5_q5_0_typeLength := F80.other W19 (Or.inr (slot_ne (Or.inr (hw _ (List.mem_of_getElem? (i := 65) rfl))) (Or.inr (hw _ (List.mem_of_getElem? (i := 51) rfl))) (by decide) (t := .int) (t' := .long) (by decide) (by decide)))
  have F82 : Fld Z h26 q5_0 "com/example/names_for_good/namesforgood/protocol/EncodedValue" "typeLength" "I" u5_q5_0_typeLength := F81.other W26 (Or.inr (slot_ne (Or.inr (hw _ (List.mem_of_getElem? (i := 65) rfl))) (Or.inr (hw _ (List.mem_of_getElem? (i := 53) rfl))) (by decide) (t := .int) (t' := .long) (by decide) (by decide)))
  have F83 : Fld Z h34 q5_0 "com/example/names_for_good/namesforgood/protocol/EncodedValue" "typeLength" "I" u5_q5_0_typeLength := F82.other W34 (Or.inr (slot_ne (Or.inr (hw _ (List.mem_of_getElem? (i := 65) rfl))) (Or.inr (hw _ (List.mem_of_getElem? (i := 55) rfl))) (by decide) (t := .int) (t' := (.object "com/example/names_for_good/namesforgood/records/HandleValue$TtlType")) (by decide) (by decide)))
  have F84 : Fld Z h43 q5_0 "com/example/names_for_good/namesforgood/protocol/EncodedValue" "typeLength" "I" u5_q5_0_typeLength := F83.other W43 (Or.inr (slot_ne (Or.inr (hw _ (List.mem_of_getElem? (i := 65) rfl))) (Or.inr (hw _ (List.mem_of_getElem? (i := 57) rfl))) (by decide) (t := .int) (t' := .long) (by decide) (by decide)))
  have F85 : Fld Z h53 q5_0 "com/example/names_for_good/namesforgood/protocol/EncodedValue" "typeLength" "I" u5_q5_0_typeLength := F84.other W53 (Or.inr (slot_ne (Or.inr (hw _ (List.mem_of_getElem? (i := 65) rfl))) (Or.inr (hw _ (List.mem_of_getElem? (i := 59) rfl))) (by decide) (t := .int) (t' := .int) (by decide) (by decide)))
  have F86 : Fld Z h64 q5_0 "com/example/names_for_good/namesforgood/protocol/EncodedValue" "typeLength" "I" u5_q5_0_typeLength := F85.other W64 (Or.inr (slot_ne (Or.inr (hw _ (List.mem_of_getElem? (i := 65) rfl))) (Or.inr (hw _ (List.mem_of_getElem? (i := 61) rfl))) (by decide) (t := .int) (t' := (.object "java/lang/String")) (by decide) (by decide)))
  have F87 : Fld Z h76 q5_0 "com/example/names_for_good/namesforgood/protocol/EncodedValue" "typeLength" "I" u5_q5_0_typeLength := F86.other W76 (Or.inr (slot_ne (Or.inr (hw _ (List.mem_of_getElem? (i := 65) rfl))) (Or.inr (hw _ (List.mem_of_getElem? (i := 63) rfl))) (by decide) (t := .int) (t' := .int) (by decide) (by decide)))
  have P88 : own_Go p e below S0 (T76.setTop (mkF m 64 #[.val (.ref q5_0), .val (.ref q5_1), .val (.int q5_2), .val (.int q5_3), .val (.long q5_4), .second, .val (.long q5_5), .second, .val (.ref q5_6), .val (.long q5_7), .second, .val (.int q5_8), .val (.ref q5_9), .val (.int q5_10), .val (.int q5_11), .val (.int q5_12), .val (.int q5_13), .val (.ref q5_14)] [(.int q5_11), (.ref q5_0)])) := fun t k => P76 t (by
    show Steps p.tables e below (T76.setTop (mkF m 61 #[.val (.ref q5_0), .val (.ref q5_1), .val (.int q5_2), .val (.int q5_3), .val (.long q5_4), .second, .val (.long q5_5), .second, .val (.ref q5_6), .val (.long q5_7), .second, .val (.int q5_8), .val (.ref q5_9), .val (.int q5_10), .val (.int q5_11), .val (.int q5_12), .val (.int q5_13), .val (.ref q5_14)] [])) t
    refine XS.aloadN X76.here hx rfl (hb hby d5_61) rfl rfl ?_
    refine XS.iload X76.here hx rfl (hb hby d5_62) rfl ?_
    show Steps p.tables e below (T76.setTop (mkF m 64 #[.val (.ref q5_0), .val (.ref q5_1), .val (.int q5_2), .val (.int q5_3), .val (.long q5_4), .second, .val (.long q5_5), .second, .val (.ref q5_6), .val (.long q5_7), .second, .val (.int q5_8), .val (.ref q5_9), .val (.int q5_10), .val (.int q5_11), .val (.int q5_12), .val (.int q5_13), .val (.ref q5_14)] [(.int q5_11), (.ref q5_0)])) t
    exact k)
  obtain ⟨T89, h89, X89, e89, W89, st89⟩ := putF X76 hx hZ hown (host := "") (Or.inl (hw _ (List.mem_of_getElem? (i := 64) rfl))) Via.refl e76 F87 F77 (Or.inr ⟨(hw _ (List.mem_of_getElem? (i := 65) rfl)), rfl, hnm⟩) (hw _ (List.mem_of_getElem? (i := 4) rfl)) (ty := .int) (by decide) rfl rfl (g := (mkF m 64 #[.val (.ref q5_0), .val (.ref q5_1), .val (.int q5_2), .val (.int q5_3), .val (.long q5_4), .second, .val (.long q5_5), .second, .val (.ref q5_6), .val (.long q5_7), .second, .val (.int q5_8), .val (.ref q5_9), .val (.int q5_10), .val (.int q5_11), .val (.int q5_12), .val (.int q5_13), .val (.ref q5_14)] [(.int q5_11), (.ref q5_0)])) rfl rfl (hb hby d5_64)
  have K89 : Keep h0 h89 [q5_0] := K76.wr W89 (Or.inl (by simp))
  have N89 := Fr.snoc X89 N76 g_q5_0
  have F89w : Fld Z h89 q5_0 "com/example/names_for_good/namesforgood/protocol/EncodedValue" "typeLength" "I" (.int q5_11) := F87.same W89
  have P89 : own_Go p e below S0 (T89.setTop (mkF m 67 #[.val (.ref q5_0), .val (.ref q5_1), .val (.int q5_2), .val (.int q5_3), .val (.long q5_4), .second, .val (.long q5_5), .second, .val (.ref q5_6), .val (.long q5_7), .second, .val (.int q5_8), .val (.ref q5_9), .val (.int q5_10), .val (.int q5_11), .val (.int q5_12), .val (.int q5_13), .val (.ref q5_14)] [])) := fun t k => P88 t (st89 _ k)
  have F90 : Exa Z h89 q5_0 "com/example/names_for_good/namesforgood/protocol/EncodedValue" := F77.wr W89
  have F91 : Fld Z h4 q5_0 "com/example/names_for_good/namesforgood/protocol/EncodedValue" "dataFrom" "I" u5_q5_0_dataFrom := F_q5_0_dataFrom.other W4 (Or.inr (slot_ne (Or.inr (hw _ (List.mem_of_getElem? (i := 67) rfl))) (Or.inr (hw _ (List.mem_of_getElem? (i := 45) rfl))) (by decide) (t := .int) (t' := (.array .byte)) (by decide) (by decide)))
  have F92 : Fld Z h8 q5_0 "com/example/names_for_good/namesforgood/protocol/EncodedValue" "dataFrom" "I" u5_q5_0_dataFrom := F91.other W8 (Or.inr (slot_ne (Or.inr (hw _ (List.mem_of_getElem? (i := 67) rfl))) (Or.inr (hw _ (List.mem_of_getElem? (i := 47) rfl))) (by decide) (t := .int) (t' := .int) (by decide) (by decide)))
  have F93 : Fld Z h13 q5_0 "com/example/names_for_good/namesforgood/protocol/EncodedValue" "dataFrom" "I" u5_q5_0_dataFrom := F92.other W13 (Or.inr (slot_ne (Or.inr (hw _ (List.mem_of_getElem? (i := 67) rfl))) (Or.inr (hw _ (List.mem_of_getElem? (i := 49) rfl))) (by decide) (t := .int) (t' := .int) (by decide) (by decide)))
  have F94 : Fld Z h19 q5_0 "com/example/names_for_good/namesforgood/protocol/EncodedValue" "dataFrom" "I" u5_q5_0_dataFrom := F93.other W19 (Or.inr (slot_ne (Or.inr (hw _ (List.mem_of_getElem? (i := 67) rfl))) (Or.inr (hw _ (List.mem_of_getElem? (i := 51) rfl))) (by decide) (t := .int) (t' := .long) (by decide) (by decide)))
  have F95 : Fld Z h26 q5_0 "com/example/names_for_good/namesforgood/protocol/EncodedValue" "dataFrom" "I" u5_q5_0_dataFrom := F94.other W26 (Or.inr (slot_ne (Or.inr (hw _ (List.mem_of_getElem? (i := 67) rfl))) (Or.inr (hw _ (List.mem_of_getElem? (i := 53) rfl))) (by decide) (t := .int) (t' := .long) (by decide) (by decide)))
  have F96 : Fld Z h34 q5_0 "com/example/names_for_good/namesforgood/protocol/EncodedValue" "dataFrom" "I" u5_q5_0_dataFrom := F95.other W34 (Or.inr (slot_ne (Or.inr (hw _ (List.mem_of_getElem? (i := 67) rfl))) (Or.inr (hw _ (List.mem_of_getElem? (i := 55) rfl))) (by decide) (t := .int) (t' := (.object "com/example/names_for_good/namesforgood/records/HandleValue$TtlType")) (by decide) (by decide)))
  have F97 : Fld Z h43 q5_0 "com/example/names_for_good/namesforgood/protocol/EncodedValue" "dataFrom" "I" u5_q5_0_dataFrom := F96.other W43 (Or.inr (slot_ne (Or.inr (hw _ (List.mem_of_getElem? (i := 67) rfl))) (Or.inr (hw _ (List.mem_of_getElem? (i := 57) rfl))) (by decide) (t := .int) (t' := .long) (by decide) (by decide)))
  have F98 : Fld Z h53 q5_0 "com/example/names_for_good/namesforgood/protocol/EncodedValue" "dataFrom" "I" u5_q5_0_dataFrom := F97.other W53 (Or.inr (slot_ne (Or.inr (hw _ (List.mem_of_getElem? (i := 67) rfl))) (Or.inr (hw _ (List.mem_of_getElem? (i := 59) rfl))) (by decide) (t := .int) (t' := .int) (by decide) (by decide)))
  have F99 : Fld Z h64 q5_0 "com/example/names_for_good/namesforgood/protocol/EncodedValue" "dataFrom" "I" u5_q5_0_dataFrom := F98.other W64 (Or.inr (slot_ne (Or.inr (hw _ (List.mem_of_getElem? (i := 67) rfl))) (Or.inr (hw _ (List.mem_of_getElem? (i := 61) rfl))) (by decide) (t := .int) (t' := (.object "java/lang/String")) (by decide) (by decide)))
  have F100 : Fld Z h76 q5_0 "com/example/names_for_good/namesforgood/protocol/EncodedValue" "dataFrom" "I" u5_q5_0_dataFrom := F99.other W76 (Or.inr (slot_ne (Or.inr (hw _ (List.mem_of_getElem? (i := 67) rfl))) (Or.inr (hw _ (List.mem_of_getElem? (i := 63) rfl))) (by decide) (t := .int) (t' := .int) (by decide) (by decide)))
  have F101 : Fld Z h89 q5_0 "com/example/names_for_good/namesforgood/protocol/EncodedValue" "dataFrom" "I" u5_q5_0_dataFrom := F100.other W89 (Or.inr (slot_ne (Or.inr (hw _ (List.mem_of_getElem? (i := 67) rfl))) (Or.inr (hw _ (List.mem_of_getElem? (i := 65) rfl))) (by decide) (t := .int) (t' := .int) (by decide) (by decide)))
  have P102 : own_Go p e below S0 (T89.setTop (mkF m 70 #[.val (.ref q5_0), .val (.ref q5_1), .val (.int q5_2), .val (.int q5_3), .val (.long q5_4), .second, .val (.long q5_5), .second, .val (.ref q5_6), .val (.long q5_7), .second, .val (.int q5_8), .val (.ref q5_9), .val (.int q5_10), .val (.int q5_11), .val (.int q5_12), .val (.int q5_13), .val (.ref q5_14)] [(.int q5_12), (.ref q5_0)])) := fun t k => P89 t (by
    show Steps p.tables e below (T89.setTop (mkF m 67 #[.val (.ref q5_0), .val (.ref q5_1), .val (.int q5_2), .val (.int q5_3), .val (.long q5_4), .second, .val (.long q5_5), .second, .val (.ref q5_6), .val (.long q5_7), .second, .val (.int q5_8), .val (.ref q5_9), .val (.int q5_10), .val (.int q5_11), .val (.int q5_12), .val (.int q5_13), .val (.ref q5_14)] [])) t
    refine XS.aloadN X89.here hx rfl (hb hby d5_67) rfl rfl ?_
    refine XS.iload X89.here hx rfl (hb hby d5_68) rfl ?_
    show Steps p.tables e below (T89.setTop (mkF m 70 #[.val (.ref q5_0), .val (.ref q5_1), .val (.int q5_2), .val (.int q5_3), .val (.long q5_4), .second, .val (.long q5_5), .second, .val (.ref q5_6), .val (.long q5_7), .second, .val (.int q5_8), .val (.ref q5_9), .val (.int q5_10), .val (.int q5_11), .val (.int q5_12), .val (.int q5_13), .val (.ref q5_14)] [(.int q5_12), (.ref q5_0)])) t
    exact k)
  obtain ⟨T103, h103, X103, e103, W103, st103⟩ := putF X89 hx hZ hown (host := "") (Or.inl (hw _ (List.mem_of_getElem? (i := 66) rfl))) Via.refl e89 F101 F90 (Or.inr ⟨(hw _ (List.mem_of_getElem? (i := 67) rfl)), rfl, hnm⟩) (hw _ (List.mem_of_getElem? (i := 4) rfl)) (ty := .int) (by decide) rfl rfl (g := (mkF m 70 #[.val (.ref q5_0), .val (.ref q5_1), .val (.int q5_2), .val (.int q5_3), .val (.long q5_4), .second, .val (.long q5_5), .second, .val (.ref q5_6), .val (.long q5_7), .second, .val (.int q5_8), .val (.ref q5_9), .val (.int q5_10), .val (.int q5_11), .val (.int q5_12), .val (.int q5_13), .val (.ref q5_14)] [(.int q5_12), (.ref q5_0)])) rfl rfl (hb hby d5_70)
  have K103 : Keep h0 h103 [q5_0] := K89.wr W103 (Or.inl (by simp))
  have N103 := Fr.snoc X103 N89 g_q5_0
  have F103w : Fld Z h103 q5_0 "com/example/names_for_good/namesforgood/protocol/EncodedValue" "dataFrom" "I" (.int q5_12) := F101.same W103
  have P103 : own_Go p e below S0 (T103.setTop (mkF m 73 #[.val (.ref q5_0), .val (.ref q5_1), .val (.int q5_2), .val (.int q5_3), .val (.long q5_4), .second, .val (.long q5_5), .second, .val (.ref q5_6), .val (.long q5_7), .second, .val (.int q5_8), .val (.ref q5_9), .val (.int q5_10), .val (.int q5_11), .val (.int q5_12), .val (.int q5_13), .val (.ref q5_14)] [])) := fun t k => P102 t (st103 _ k)
  have F104 : Exa Z h103 q5_0 "com/example/names_for_good/namesforgood/protocol/EncodedValue" := F90.wr W103
  have F105 : Fld Z h4 q5_0 "com/example/names_for_good/namesforgood/protocol/EncodedValue" "dataLength" "I" u5_q5_0_dataLength := F_q5_0_dataLength.other W4 (Or.inr (slot_ne (Or.inr (hw _ (List.mem_of_getElem? (i := 69) rfl))) (Or.inr (hw _ (List.mem_of_getElem? (i := 45) rfl))) (by decide) (t := .int) (t' := (.array .byte)) (by decide) (by decide)))
  have F106 : Fld Z h8 q5_0 "com/example/names_for_good/namesforgood/protocol/EncodedValue" "dataLength" "I" u5_q5_0_dataLength := F105.other W8 (Or.inr (slot_ne (Or.inr (hw _ (List.mem_of_getElem? (i := 69) rfl))) (Or.inr (hw _ (List.mem_of_getElem? (i := 47) rfl))) (by decide) (t := .int) (t' := .int) (by decide) (by decide)))
  have F107 : Fld Z h13 q5_0 "com/example/names_for_good/namesforgood/protocol/EncodedValue" "dataLength" "I" u5_q5_0_dataLength := F106.other W13 (Or.inr (slot_ne (Or.inr (hw _ (List.mem_of_getElem? (i := 69) rfl))) (Or.inr (hw _ (List.mem_of_getElem? (i := 49) rfl))) (by decide) (t := .int) (t' := .int) (by decide) (by decide)))
  have F108 : Fld Z h19 q5_0 "com/example/names_for_good/namesforgood/protocol/EncodedValue" "dataLength" "I" u5_q5_0_dataLength := F107.other W19 (Or.inr (slot_ne (Or.inr (hw _ (List.mem_of_getElem? (i := 69) rfl))) (Or.inr (hw _ (List.mem_of_getElem? (i := 51) rfl))) (by decide) (t := .int) (t' := .long) (by decide) (by decide)))
  have F109 : Fld Z h26 q5_0 "com/example/names_for_good/namesforgood/protocol/EncodedValue" "dataLength" "I" u5_q5_0_dataLength := F108.other W26 (Or.inr (slot_ne (Or.inr (hw _ (List.mem_of_getElem? (i := 69) rfl))) (Or.inr (hw _ (List.mem_of_getElem? (i := 53) rfl))) (by decide) (t := .int) (t' := .long) (by decide) (by decide)))
  have F110 : Fld Z h34 q5_0 "com/example/names_for_good/namesforgood/protocol/EncodedValue" "dataLength" "I" u5_q5_0_dataLength := F109.other W34 (Or.inr (slot_ne (Or.inr (hw _ (List.mem_of_getElem? (i := 69) rfl))) (Or.inr (hw _ (List.mem_of_getElem? (i := 55) rfl))) (by decide) (t := .int) (t' := (.object "com/example/names_for_good/namesforgood/records/HandleValue$TtlType")) (by decide) (by decide)))
  have F111 : Fld Z h43 q5_0 "com/example/names_for_good/namesforgood/protocol/EncodedValue" "dataLength" "I" u5_q5_0_dataLength := F110.other W43 (Or.inr (slot_ne (Or.inr (hw _ (List.mem_of_getElem? (i := 69) rfl))) (Or.inr (hw _ (List.mem_of_getElem? (i := 57) rfl))) (by decide) (t := .int) (t' := .long) (by decide) (by decide)))
  have F112 : Fld Z h53 q5_0 "com/example/names_for_good/namesforgood/protocol/EncodedValue" "dataLength" "I" u5_q5_0_dataLength := F111.other W53 (Or.inr (slot_ne (Or.inr (hw _ (List.mem_of_getElem? (i := 69) rfl))) (Or.inr (hw _ (List.mem_of_getElem? (i := 59) rfl))) (by decide) (t := .int) (t' := .int) (by decide) (by decide)))
  have F113 : Fld Z h64 q5_0 "com/example/names_for_good/namesforgood/protocol/EncodedValue" "dataLength" "I" u5_q5_0_dataLength := F112.other W64 (Or.inr (slot_ne (Or.inr (hw _ (List.mem_of_getElem? (i := 69) rfl))) (Or.inr (hw _ (List.mem_of_getElem? (i := 61) rfl))) (by decide) (t := .int) (t' := (.object "java/lang/String")) (by decide) (by decide)))
  have F114 : Fld Z h76 q5_0 "com/example/names_for_good/namesforgood/protocol/EncodedValue" "dataLength" "I" u5_q5_0_dataLength := F113.other W76 (Or.inr (slot_ne (Or.inr (hw _ (List.mem_of_getElem? (i := 69) rfl))) (Or.inr (hw _ (List.mem_of_getElem? (i := 63) rfl))) (by decide) (t := .int) (t' := .int) (by decide) (by decide)))
  have F115 : Fld Z h89 q5_0 "com/example/names_for_good/namesforgood/protocol/EncodedValue" "dataLength" "I" u5_q5_0_dataLength := F114.other W89 (Or.inr (slot_ne (Or.inr (hw _ (List.mem_of_getElem? (i := 69) rfl))) (Or.inr (hw _ (List.mem_of_getElem? (i := 65) rfl))) (by decide) (t := .int) (t' := .int) (by decide) (by decide)))
  have F116 : Fld Z h103 q5_0 "com/example/names_for_good/namesforgood/protocol/EncodedValue" "dataLength" "I" u5_q5_0_dataLength := F115.other W103 (Or.inr (slot_ne (Or.inr (hw _ (List.mem_of_getElem? (i := 69) rfl))) (Or.inr (hw _ (List.mem_of_getElem? (i := 67) rfl))) (by decide) (t := .int) (t' := .int) (by decide) (by decide)))
  have P117 : own_Go p e below S0 (T103.setTop (mkF m 76 #[.val (.ref q5_0), .val (.ref q5_1), .val (.int q5_2), .val (.int q5_3), .val (.long q5_4), .second, .val (.long q5_5), .second, .val (.ref q5_6), .val (.long q5_7), .second, .val (.int q5_8), .val (.ref q5_9), .val (.int q5_10), .val (.int q5_11), .val (.int q5_12), .val (.int q5_13), .val (.ref q5_14)] [(.int q5_13), (.ref q5_0)])) := fun t k => P103 t (by
    show Steps p.tables e below (T103.setTop (mkF m 73 #[.val (.ref q5_0), .val (.ref q5_1), .val (.int q5_2), .val (.int q5_3), .val (.long q5_4), .second, .val (.long q5_5), .second, .val (.ref q5_6), .val (.long q5_7), .second, .val (.int q5_8), .val (.ref q5_9), .val (.int q5_10), .val (.int q5_11), .val (.int q5_12), .val (.int q5_13), .val (.ref q5_14)] [])) t
    refine XS.aloadN X103.here hx rfl (hb hby d5_73) rfl rfl ?_
    refine XS.iload X103.here hx rfl (hb hby d5_74) rfl ?_
    show Steps p.tables e below (T103.setTop (mkF m 76 #[.val (.ref q5_0), .val (.ref q5_1), .val (.int q5_2), .val (.int q5_3), .val (.long q5_4), .second, .val (.long q5_5), .second, .val (.ref q5_6), .val (.long q5_7), .second, .val (.int q5_8), .val (.ref q5_9), .val (.int q5_10), .val (.int q5_11), .val (.int q5_12), .val (.int q5_13), .val (.ref q5_14)] [(.int q5_13), (.ref q5_0)])) t
    exact k)
  obtain ⟨T118, h118, X118, e118, W118, st118⟩ := putF X103 hx hZ hown (host := "") (Or.inl (hw _ (List.mem_of_getElem? (i := 68) rfl))) Via.refl e103 F116 F104 (Or.inr ⟨(hw _ (List.mem_of_getElem? (i := 69) rfl)), rfl, hnm⟩) (hw _ (List.mem_of_getElem? (i := 4) rfl)) (ty := .int) (by decide) rfl rfl (g := (mkF m 76 #[.val (.ref q5_0), .val (.ref q5_1), .val (.int q5_2), .val (.int q5_3), .val (.long q5_4), .second, .val (.long q5_5), .second, .val (.ref q5_6), .val (.long q5_7), .second, .val (.int q5_8), .val (.ref q5_9), .val (.int q5_10), .val (.int q5_11), .val (.int q5_12), .val (.int q5_13), .val (.ref q5_14)] [(.int q5_13), (.ref q5_0)])) rfl rfl (hb hby d5_76)
  have K118 : Keep h0 h118 [q5_0] := K103.wr W118 (Or.inl (by simp))
  have N118 := Fr.snoc X118 N103 g_q5_0
  have F118w : Fld Z h118 q5_0 "com/example/names_for_good/namesforgood/protocol/EncodedValue" "dataLength" "I" (.int q5_13) := F116.same W118
  have P118 : own_Go p e below S0 (T118.setTop (mkF m 79 #[.val (.ref q5_0), .val (.ref q5_1), .val (.int q5_2), .val (.int q5_3), .val (.long q5_4), .second, .val (.long q5_5), .second, .val (.ref q5_6), .val (.long q5_7), .second, .val (.int q5_8), .val (.ref q5_9), .val (.int q5_10), .val (.int q5_11), .val (.int q5_12), .val (.int q5_13), .val (.ref q5_14)] [])) := fun t k => P117 t (st118 _ k)
  have F119 : Exa Z h118 q5_0 "com/example/names_for_good/namesforgood/protocol/EncodedValue" := F104.wr W118
  have F120 : Fld Z h4 q5_0 "com/example/names_for_good/namesforgood/protocol/EncodedValue" "references" "Ljava/util/List;" u5_q5_0_references := F_q5_0_references.other W4 (Or.inr (slot_ne (Or.inr (hw _ (List.mem_of_getElem? (i := 71) rfl))) (Or.inr (hw _ (List.mem_of_getElem? (i := 45) rfl))) (by decide) (t := (.object "java/util/List")) (t' := (.array .byte)) (by decide) (by decide)))
  have F121 : Fld Z h8 q5_0 "com/example/names_for_good/namesforgood/protocol/EncodedValue" "references" "Ljava/util/List;" u5_q5_0_references := F120.other W8 (Or.inr (slot_ne (Or.inr (hw _ (List.mem_of_getElem? (i := 71) rfl))) (Or.inr (hw _ (List.mem_of_getElem? (i := 47) rfl))) (by decide) (t := (.object "java/util/List")) (t' := .int) (by decide) (by decide)))
  have F122 : Fld Z h13 q5_0 "com/example/names_for_good/namesforgood/protocol/EncodedValue" "references" "Ljava/util/List;" u5_q5_0_references := F121.other W13 (Or.inr (slot_ne (Or.inr (hw _ (List.mem_of_getElem? (i := 71) rfl))) (Or.inr (hw _ (List.mem_of_getElem? (i := 49) rfl))) (by decide) (t := (.object "java/util/List")) (t' := .int) (by decide) (by decide)))
  have F123 : Fld Z h19 q5_0 "com/example/names_for_good/namesforgood/protocol/EncodedValue" "references" "Ljava/util/List;" u5_q5_0_references := F122.other W19 (Or.inr (slot_ne (Or.inr (hw _ (List.mem_of_getElem? (i := 71) rfl))) (Or.inr (hw _ (List.mem_of_getElem? (i := 51) rfl))) (by decide) (t := (.object "java/util/List")) (t' := .long) (by decide) (by decide)))
  have F124 : Fld Z h26 q5_0 "com/example/names_for_good/namesforgood/protocol/EncodedValue" "references" "Ljava/util/List;" u5_q5_0_references := F123.other W26 (Or.inr (slot_ne (Or.inr (hw _ (List.mem_of_getElem? (i := 71) rfl))) (Or.inr (hw _ (List.mem_of_getElem? (i := 53) rfl))) (by decide) (t := (.object "java/util/List")) (t' := .long) (by decide) (by decide)))
  have F125 : Fld Z h34 q5_0 "com/example/names_for_good/namesforgood/protocol/EncodedValue" "references" "Ljava/util/List;" u5_q5_0_references := F124.other W34 (Or.inr (slot_ne (Or.inr (hw _ (List.mem_of_getElem? (i := 71) rfl))) (Or.inr (hw _ (List.mem_of_getElem? (i := 55) rfl))) (by decide) (t := (.object "java/util/List")) (t' := (.object "com/example/names_for_good/namesforgood/records/HandleValue$TtlType")) (by decide) (by decide)))
  have F126 : Fld Z h43 q5_0 "com/example/names_for_good/namesforgood/protocol/EncodedValue" "references" "Ljava/util/List;" u5_q5_0_references := F125.other W43 (Or.inr (slot_ne (Or.inr (hw _ (List.mem_of_getElem? (i := 71) rfl))) (Or.inr (hw _ (List.mem_of_getElem? (i := 57) rfl))) (by decide) (t := (.object "java/util/List")) (t' := .long) (by decide) (by decide)))
  have F127 : Fld Z h53 q5_0 "com/example/names_for_good/namesforgood/protocol/EncodedValue" "references" "Ljava/util/List;" u5_q5_0_references := F126.other W53 (Or.inr (slot_ne (Or.inr (hw _ (List.mem_of_getElem? (i := 71) rfl))) (Or.inr (hw _ (List.mem_of_getElem? (i := 59) rfl))) (by decide) (t := (.object "java/util/List")) (t' := .int) (by decide) (by decide)))
  have F128 : Fld Z h64 q5_0 "com/example/names_for_good/namesforgood/protocol/EncodedValue" "references" "Ljava/util/List;" u5_q5_0_references := F127.other W64 (Or.inr (slot_ne (Or.inr (hw _ (List.mem_of_getElem? (i := 71) rfl))) (Or.inr (hw _ (List.mem_of_getElem? (i := 61) rfl))) (by decide) (t := (.object "java/util/List")) (t' := (.object "java/lang/String")) (by decide) (by decide)))
  have F129 : Fld Z h76 q5_0 "com/example/names_for_good/namesforgood/protocol/EncodedValue" "references" "Ljava/util/List;" u5_q5_0_references := F128.other W76 (Or.inr (slot_ne (Or.inr (hw _ (List.mem_of_getElem? (i := 71) rfl))) (Or.inr (hw _ (List.mem_of_getElem? (i := 63) rfl))) (by decide) (t := (.object "java/util/List")) (t' := .int) (by decide) (by decide)))
  have F130 : Fld Z h89 q5_0 "com/example/names_for_good/namesforgood/protocol/EncodedValue" "references" "Ljava/util/List;" u5_q5_0_references := F129.other W89 (Or.inr (slot_ne (Or.inr (hw _ (List.mem_of_getElem? (i := 71) rfl))) (Or.inr (hw _ (List.mem_of_getElem? (i := 65) rfl))) (by decide) (t := (.object "java/util/List")) (t' := .int) (by decide) (by decide)))
  have F131 : Fld Z h103 q5_0 "com/example/names_for_good/namesforgood/protocol/EncodedValue" "references" "Ljava/util/List;" u5_q5_0_references := F130.other W103 (Or.inr (slot_ne (Or.inr (hw _ (List.mem_of_getElem? (i := 71) rfl))) (Or.inr (hw _ (List.mem_of_getElem? (i := 67) rfl))) (by decide) (t := (.object "java/util/List")) (t' := .int) (by decide) (by decide)))
  have F132 : Fld Z h118 q5_0 "com/example/names_for_good/namesforgood/protocol/EncodedValue" "references" "Ljava/util/List;" u5_q5_0_references := F131.other W118 (Or.inr (slot_ne (Or.inr (hw _ (List.mem_of_getElem? (i := 71) rfl))) (Or.inr (hw _ (List.mem_of_getElem? (i := 69) rfl))) (by decide) (t := (.object "java/util/List")) (t' := .int) (by decide) (by decide)))
  have P133 : own_Go p e below S0 (T118.setTop (mkF m 82 #[.val (.ref q5_0), .val (.ref q5_1), .val (.int q5_2), .val (.int q5_3), .val (.long q5_4), .second, .val (.long q5_5), .second, .val (.ref q5_6), .val (.long q5_7), .second, .val (.int q5_8), .val (.ref q5_9), .val (.int q5_10), .val (.int q5_11), .val (.int q5_12), .val (.int q5_13), .val (.ref q5_14)] [(.ref q5_14), (.ref q5_0)])) := fun t k => P118 t (by
    show Steps p.tables e below (T118.setTop (mkF m 79 #[.val (.ref q5_0), .val (.ref q5_1), .val (.int q5_2), .val (.int q5_3), .val (.long q5_4), .second, .val (.long q5_5), .second, .val (.ref q5_6), .val (.long q5_7), .second, .val (.int q5_8), .val (.ref q5_9), .val (.int q5_10), .val (.int q5_11), .val (.int q5_12), .val (.int q5_13), .val (.ref q5_14)] [])) t
    refine XS.aloadN X118.here hx rfl (hb hby d5_79) rfl rfl ?_
    refine XS.aload X118.here hx rfl (hb hby d5_80) rfl rfl ?_
    show Steps p.tables e below (T118.setTop (mkF m 82 #[.val (.ref q5_0), .val (.ref q5_1), .val (.int q5_2), .val (.int q5_3), .val (.long q5_4), .second, .val (.long q5_5), .second, .val (.ref q5_6), .val (.long q5_7), .second, .val (.int q5_8), .val (.ref q5_9), .val (.int q5_10), .val (.int q5_11), .val (.int q5_12), .val (.int q5_13), .val (.ref q5_14)] [(.ref q5_14), (.ref q5_0)])) t
    exact k)
  obtain ⟨T134, h134, X134, e134, W134, st134⟩ := putF X118 hx hZ hown (host := "") (Or.inl (hw _ (List.mem_of_getElem? (i := 70) rfl))) Via.refl e118 F132 F119 (Or.inr ⟨(hw _ (List.mem_of_getElem? (i := 71) rfl)), rfl, hnm⟩) (hw _ (List.mem_of_getElem? (i := 4) rfl)) (ty := (.object "java/util/List")) (by decide) rfl rfl (g := (mkF m 82 #[.val (.ref q5_0), .val (.ref q5_1), .val (.int q5_2), .val (.int q5_3), .val (.long q5_4), .second, .val (.long q5_5), .second, .val (.ref q5_6), .val (.long q5_7), .second, .val (.int q5_8), .val (.ref q5_9), .val (.int q5_10), .val (.int q5_11), .val (.int q5_12), .val (.int q5_13), .val (.ref q5_14)] [(.ref q5_14), (.ref q5_0)])) rfl rfl (hb hby d5_82)
  have K134 : Keep h0 h134 [q5_0] := K118.wr W134 (Or.inl (by simp))
  have N134 := Fr.snoc X134 N118 g_q5_0
  have F134w : Fld Z h134 q5_0 "com/example/names_for_good/namesforgood/protocol/EncodedValue" "references" "Ljava/util/List;" (.ref q5_14) := F132.same W134
  have P134 : own_Go p e below S0 (T134.setTop (mkF m 85 #[.val (.ref q5_0), .val (.ref q5_1), .val (.int q5_2), .val (.int q5_3), .val (.long q5_4), .second, .val (.long q5_5), .second, .val (.ref q5_6), .val (.long q5_7), .second, .val (.int q5_8), .val (.ref q5_9), .val (.int q5_10), .val (.int q5_11), .val (.int q5_12), .val (.int q5_13), .val (.ref q5_14)] [])) := fun t k => P133 t (st134 _ k)
  have F135 : Fld Z h8 q5_0 "com/example/names_for_good/namesforgood/protocol/EncodedValue" "octets" "[B" (.ref q5_1) := F4w.other W8 (Or.inr (slot_ne (Or.inr (hw _ (List.mem_of_getElem? (i := 45) rfl))) (Or.inr (hw _ (List.mem_of_getElem? (i := 47) rfl))) (by decide) (t := (.array .byte)) (t' := .int) (by decide) (by decide)))
  have F136 : Fld Z h13 q5_0 "com/example/names_for_good/namesforgood/protocol/EncodedValue" "octets" "[B" (.ref q5_1) := F135.other W13 (Or.inr (slot_ne (Or.inr (hw _ (List.mem_of_getElem? (i := 45) rfl))) (Or.inr (hw _ (List.mem_of_getElem? (i := 49) rfl))) (by decide) (t := (.array .byte)) (t' := .int) (by decide) (by decide)))
  have F137 : Fld Z h19 q5_0 "com/example/names_for_good/namesforgood/protocol/EncodedValue" "octets" "[B" (.ref q5_1) := F136.other W19 (Or.inr (slot_ne (Or.inr (hw _ (List.mem_of_getElem? (i := 45) rfl))) (Or.inr (hw _ (List.mem_of_getElem? (i := 51) rfl))) (by decide) (t := (.array .byte)) (t' := .long) (by decide) (by decide)))
  have F138 : Fld Z h26 q5_0 "com/example/names_for_good/namesforgood/protocol/EncodedValue" "octets" "[B" (.ref q5_1) := F137.other W26 (Or.inr (slot_ne (Or.inr (hw _ (List.mem_of_getElem? (i := 45) rfl))) (Or.inr (hw _ (List.mem_of_getElem? (i := 53) rfl))) (by decide) (t := (.array .byte)) (t' := .long) (by decide) (by decide)))
  have F139 : Fld Z h34 q5_0 "com/example/names_for_good/namesforgood/protocol/EncodedValue" "octets" "[B" (.ref q5_1) := F138.other W34 (Or.inr (slot_ne (Or.inr (hw _ (List.mem_of_getElem? (i := 45) rfl))) (Or.inr (hw _ (List.mem_of_getElem? (i := 55) rfl))) (by decide) (t := (.array .byte)) (t' := (.object "com/example/names_for_good/namesforgood/records/HandleValue$TtlType")) (by decide) (by decide)))
  have F140 : Fld Z h43 q5_0 "com/example/names_for_good/namesforgood/protocol/EncodedValue" "octets" "[B" (.ref q5_1) := F139.other W43 (Or.inr (slot_ne (Or.inr (hw _ (List.mem_of_getElem? (i := 45) rfl))) (Or.inr (hw _ (List.mem_of_getElem? (i := 57) rfl))) (by decide) (t := (.array .byte)) (t' := .long) (by decide) (by decide)))
  have F141 : Fld Z h53 q5_0 "com/example/names_for_good/namesforgood/protocol/EncodedValue" "octets" "[B" (.ref q5_1) := F140.other W53 (Or.inr (slot_ne (Or.inr (hw _ (List.mem_of_getElem? (i := 45) rfl))) (Or.inr (hw _ (List.mem_of_getElem? (i := 59) rfl))) (by decide) (t := (.array .byte)) (t' := .int) (by decide) (by decide)))
  have F142 : Fld Z h64 q5_0 "com/example/names_for_good/namesforgood/protocol/EncodedValue" "octets" "[B" (.ref q5_1) := F141.other W64 (Or.inr (slot_ne (Or.inr (hw _ (List.mem_of_getElem? (i := 45) rfl))) (Or.inr (hw _ (List.mem_of_getElem? (i := 61) rfl))) (by decide) (t := (.array .byte)) (t' := (.object "java/lang/String")) (by decide) (by decide)))
  have F143 : Fld Z h76 q5_0 "com/example/names_for_good/namesforgood/protocol/EncodedValue" "octets" "[B" (.ref q5_1) := F142.other W76 (Or.inr (slot_ne (Or.inr (hw _ (List.mem_of_getElem? (i := 45) rfl))) (Or.inr (hw _ (List.mem_of_getElem? (i := 63) rfl))) (by decide) (t := (.array .byte)) (t' := .int) (by decide) (by decide)))
  have F144 : Fld Z h89 q5_0 "com/example/names_for_good/namesforgood/protocol/EncodedValue" "octets" "[B" (.ref q5_1) := F143.other W89 (Or.inr (slot_ne (Or.inr (hw _ (List.mem_of_getElem? (i := 45) rfl))) (Or.inr (hw _ (List.mem_of_getElem? (i := 65) rfl))) (by decide) (t := (.array .byte)) (t' := .int) (by decide) (by decide)))
  have F145 : Fld Z h103 q5_0 "com/example/names_for_good/namesforgood/protocol/EncodedValue" "octets" "[B" (.ref q5_1) := F144.other W103 (Or.inr (slot_ne (Or.inr (hw _ (List.mem_of_getElem? (i := 45) rfl))) (Or.inr (hw _ (List.mem_of_getElem? (i := 67) rfl))) (by decide) (t := (.array .byte)) (t' := .int) (by decide) (by decide)))
  have F146 : Fld Z h118 q5_0 "com/example/names_for_good/namesforgood/protocol/EncodedValue" "octets" "[B" (.ref q5_1) := F145.other W118 (Or.inr (slot_ne (Or.inr (hw _ (List.mem_of_getElem? (i := 45) rfl))) (Or.inr (hw _ (List.mem_of_getElem? (i := 69) rfl))) (by decide) (t := (.array .byte)) (t' := .int) (by decide) (by decide)))
  have F147 : Fld Z h134 q5_0 "com/example/names_for_good/namesforgood/protocol/EncodedValue" "octets" "[B" (.ref q5_1) := F146.other W134 (Or.inr (slot_ne (Or.inr (hw _ (List.mem_of_getElem? (i := 45) rfl))) (Or.inr (hw _ (List.mem_of_getElem? (i := 71) rfl))) (by decide) (t := (.array .byte)) (t' := (.object "java/util/List")) (by decide) (by decide)))
  have F148 : Fld Z h13 q5_0 "com/example/names_for_good/namesforgood/protocol/EncodedValue" "from" "I" (.int q5_2) := F8w.other W13 (Or.inr (slot_ne (Or.inr (hw _ (List.mem_of_getElem? (i := 47) rfl))) (Or.inr (hw _ (List.mem_of_getElem? (i := 49) rfl))) (by decide) (t := .int) (t' := .int) (by decide) (by decide)))
  have F149 : Fld Z h19 q5_0 "com/example/names_for_good/namesforgood/protocol/EncodedValue" "from" "I" (.int q5_2) := F148.other W19 (Or.inr (slot_ne (Or.inr (hw _ (List.mem_of_getElem? (i := 47) rfl))) (Or.inr (hw _ (List.mem_of_getElem? (i := 51) rfl))) (by decide) (t := .int) (t' := .long) (by decide) (by decide)))
  have F150 : Fld Z h26 q5_0 "com/example/names_for_good/namesforgood/protocol/EncodedValue" "from" "I" (.int q5_2) := F149.other W26 (Or.inr (slot_ne (Or.inr (hw _ (List.mem_of_getElem? (i := 47) rfl))) (Or.inr (hw _ (List.mem_of_getElem? (i := 53) rfl))) (by decide) (t := .int) (t' := .long) (by decide) (by decide)))
  have F151 : Fld Z h34 q5_0 "com/example/names_for_good/namesforgood/protocol/EncodedValue" "from" "I" (.int q5_2) := F150.other W34 (Or.inr (slot_ne (Or.inr (hw _ (List.mem_of_getElem? (i := 47) rfl))) (Or.inr (hw _ (List.mem_of_getElem? (i := 55) rfl))) (by decide) (t := .int) (t' := (.object "com/example/names_for_good/namesforgood/records/HandleValue$TtlType")) (by decide) (by decide)))
  have F152 : Fld Z h43 q5_0 "com/example/names_for_good/namesforgood/protocol/EncodedValue" "from" "I" (.int q5_2) := F151.other W43 (Or.inr (slot_ne (Or.inr (hw _ (List.mem_of_getElem? (i := 47) rfl))) (Or.inr (hw _ (List.mem_of_getElem? (i := 57) rfl))) (by decide) (t := .int) (t' := .long) (by decide) (by decide)))
  have F153 : Fld Z h53 q5_0 "com/example/names_for_good/namesforgood/protocol/EncodedValue" "from" "I" (.int q5_2) := F152.other W53 (Or.inr (slot_ne (Or.inr (hw _ (List.mem_of_getElem? (i := 47) rfl))) (Or.inr (hw _ (List.mem_of_getElem? (i := 59) rfl))) (by decide) (t := .int) (t' := .int) (by decide) (by decide)))
  have F154 : Fld Z h64 q5_0 "com/example/names_for_good/namesforgood/protocol/EncodedValue" "from" "I" (.int q5_2) := F153.other W64 (Or.inr (slot_ne (Or.inr (hw _ (List.mem_of_getElem? (i := 47) rfl))) (Or.inr (hw _ (List.mem_of_getElem? (i := 61) rfl))) (by decide) (t := .int) (t' := (.object "java/lang/String")) (by decide) (by decide)))
  have F155 : Fld Z h76 q5_0 "com/example/names_for_good/namesforgood/protocol/EncodedValue" "from" "I" (.int q5_2) := F154.other W76 (Or.inr (slot_ne (Or.inr (hw _ (List.mem_of_getElem? (i := 47) rfl))) (Or.inr (hw _ (List.mem_of_getElem? (i := 63) rfl))) (by decide) (t := .int) (t' := .int) (by decide) (by decide)))
  have F156 : Fld Z h89 q5_0 "com/example/names_for_good/namesforgood/protocol/EncodedValue" "from" "I" (.int q5_2) := F155.other W89 (Or.inr (slot_ne (Or.inr (hw _ (List.mem_of_getElem? (i := 47) rfl))) (Or.inr (hw _ (List.mem_of_getElem? (i := 65) rfl))) (by decide) (t := .int) (t' := .int) (by decide) (by decide)))
  have F157 : Fld Z h103 q5_0 "com/example/names_for_good/namesforgood/protocol/EncodedValue" "from" "I" (.int q5_2) := F156.other W103 (Or.inr (slot_ne (Or.inr (hw _ (List.mem_of_getElem? (i := 47) rfl))) (Or.inr (hw _ (List.mem_of_getElem? (i := 67) rfl))) (by decide) (t := .int) (t' := .int) (by decide) (by decide)))
  have F158 : Fld Z h118 q5_0 "com/example/names_for_good/namesforgood/protocol/EncodedValue" "from" "I" (.int q5_2) := F157.other W118 (Or.inr (slot_ne (Or.inr (hw _ (List.mem_of_getElem? (i := 47) rfl))) (Or.inr (hw _ (List.mem_of_getElem? (i := 69) rfl))) (by decide) (t := .int) (t' := .int) (by decide) (by decide)))
  have F159 : Fld Z h134 q5_0 "com/example/names_for_good/namesforgood/protocol/EncodedValue" "from" "I" (.int q5_2) := F158.other W134 (Or.inr (slot_ne (Or.inr (hw _ (List.mem_of_getElem? (i := 47) rfl))) (Or.inr (hw _ (List.mem_of_getElem? (i := 71) rfl))) (by decide) (t := .int) (t' := (.object "java/util/List")) (by decide) (by decide)))
  have F160 : Fld Z h19 q5_0 "com/example/names_for_good/namesforgood/protocol/EncodedValue" "to" "I" (.int q5_3) := F13w.other W19 (Or.inr (slot_ne (Or.inr (hw _ (List.mem_of_getElem? (i := 49) rfl))) (Or.inr (hw _ (List.mem_of_getElem? (i := 51) rfl))) (by decide) (t := .int) (t' := .long) (by decide) (by decide)))
  have F161 : Fld Z h26 q5_0 "com/example/names_for_good/namesforgood/protocol/EncodedValue" "to" "I" (.int q5_3) := F160.other W26 (Or.inr (slot_ne (Or.inr (hw _ (List.mem_of_getElem? (i := 49) rfl))) (Or.inr (hw _ (List.mem_of_getElem? (i := 53) rfl))) (by decide) (t := .int) (t' := .long) (by decide) (by decide)))
  have F162 : Fld Z h34 q5_0 "com/example/names_for_good/namesforgood/protocol/EncodedValue" "to" "I" (.int q5_3) := F161.other W34 (Or.inr (slot_ne (Or.inr (hw _ (List.mem_of_getElem? (i := 49) rfl))) (Or.inr (hw _ (List.mem_of_getElem? (i := 55) rfl))) (by decide) (t := .int) (t' := (.object "com/example/names_for_good/namesforgood/records/HandleValue$TtlType")) (by decide) (by decide)))
  have F163 : Fld Z h43 q5_0 "com/example/names_for_good/namesforgood/protocol/EncodedValue" "to" "I" (.int q5_3) := F162.other W43 (Or.inr (slot_ne (Or.inr (hw _ (List.mem_of_getElem? (i := 49) rfl))) (Or.inr (hw _ (List.mem_of_getElem? (i := 57) rfl))) (by decide) (t := .int) (t' := .long) (by decide) (by decide)))
  have F164 : Fld Z h53 q5_0 "com/example/names_for_good/namesforgood/protocol/EncodedValue" "to" "I" (.int q5_3) := F163.other W53 (Or.inr (slot_ne (Or.inr (hw _ (List.mem_of_getElem? (i := 49) rfl))) (Or.inr (hw _ (List.mem_of_getElem? (i := 59) rfl))) (by decide) (t := .int) (t' := .int) (by decide) (by decide)))
  have F165 : Fld Z h64 q5_0 "com/example/names_for_good/namesforgood/protocol/EncodedValue" "to" "I" (.int q5_3) := F164.other W64 (Or.inr (slot_ne (Or.inr (hw _ (List.mem_of_getElem? (i := 49) rfl))) (Or.inr (hw _ (List.mem_of_getElem? (i := 61) rfl))) (by decide) (t := .int) (t' := (.object "java/lang/String")) (by decide) (by decide)))
  have F166 : Fld Z h76 q5_0 "com/example/names_for_good/namesforgood/protocol/EncodedValue" "to" "I" (.int q5_3) := F165.other W76 (Or.inr (slot_ne (Or.inr (hw _ (List.mem_of_getElem? (i := 49) rfl))) (Or.inr (hw _ (List.mem_of_getElem? (i := 63) rfl))) (by decide) (t := .int) (t' := .int) (by decide) (by decide)))
  have F167 : Fld Z h89 q5_0 "com/example/names_for_good/namesforgood/protocol/EncodedValue" "to" "I" (.int q5_3) := F166.other W89 (Or.inr (slot_ne (Or.inr (hw _ (List.mem_of_getElem? (i := 49) rfl))) (Or.inr (hw _ (List.mem_of_getElem? (i := 65) rfl))) (by decide) (t := .int) (t' := .int) (by decide) (by decide)))
  have F168 : Fld Z h103 q5_0 "com/example/names_for_good/namesforgood/protocol/EncodedValue" "to" "I" (.int q5_3) := F167.other W103 (Or.inr (slot_ne (Or.inr (hw _ (List.mem_of_getElem? (i := 49) rfl))) (Or.inr (hw _ (List.mem_of_getElem? (i := 67) rfl))) (by decide) (t := .int) (t' := .int) (by decide) (by decide)))
  have F169 : Fld Z h118 q5_0 "com/example/names_for_good/namesforgood/protocol/EncodedValue" "to" "I" (.int q5_3) := F168.other W118 (Or.inr (slot_ne (Or.inr (hw _ (List.mem_of_getElem? (i := 49) rfl))) (Or.inr (hw _ (List.mem_of_getElem? (i := 69) rfl))) (by decide) (t := .int) (t' := .int) (by decide) (by decide)))
  have F170 : Fld Z h134 q5_0 "com/example/names_for_good/namesforgood/protocol/EncodedValue" "to" "I" (.int q5_3) := F169.other W134 (Or.inr (slot_ne (Or.inr (hw _ (List.mem_of_getElem? (i := 49) rfl))) (Or.inr (hw _ (List.mem_of_getElem? (i := 71) rfl))) (by decide) (t := .int) (t' := (.object "java/util/List")) (by decide) (by decide)))
  have F171 : Fld Z h26 q5_0 "com/example/names_for_good/namesforgood/protocol/EncodedValue" "index" "J" (.long q5_4) := F19w.other W26 (Or.inr (slot_ne (Or.inr (hw _ (List.mem_of_getElem? (i := 51) rfl))) (Or.inr (hw _ (List.mem_of_getElem? (i := 53) rfl))) (by decide) (t := .long) (t' := .long) (by decide) (by decide)))
  have F172 : Fld Z h34 q5_0 "com/example/names_for_good/namesforgood/protocol/EncodedValue" "index" "J" (.long q5_4) := F171.other W34 (Or.inr (slot_ne (Or.inr (hw _ (List.mem_of_getElem? (i := 51) rfl))) (Or.inr (hw _ (List.mem_of_getElem? (i := 55) rfl))) (by decide) (t := .long) (t' := (.object "com/example/names_for_good/namesforgood/records/HandleValue$TtlType")) (by decide) (by decide)))
  have F173 : Fld Z h43 q5_0 "com/example/names_for_good/namesforgood/protocol/EncodedValue" "index" "J" (.long q5_4) := F172.other W43 (Or.inr (slot_ne (Or.inr (hw _ (List.mem_of_getElem? (i := 51) rfl))) (Or.inr (hw _ (List.mem_of_getElem? (i := 57) rfl))) (by decide) (t := .long) (t' := .long) (by decide) (by decide)))
  have F174 : Fld Z h53 q5_0 "com/example/names_for_good/namesforgood/protocol/EncodedValue" "index" "J" (.long q5_4) := F173.other W53 (Or.inr (slot_ne (Or.inr (hw _ (List.mem_of_getElem? (i := 51) rfl))) (Or.inr (hw _ (List.mem_of_getElem? (i := 59) rfl))) (by decide) (t := .long) (t' := .int) (by decide) (by decide)))
  have F175 : Fld Z h64 q5_0 "com/example/names_for_good/namesforgood/protocol/EncodedValue" "index" "J" (.long q5_4) := F174.other W64 (Or.inr (slot_ne (Or.inr (hw _ (List.mem_of_getElem? (i := 51) rfl))) (Or.inr (hw _ (List.mem_of_getElem? (i := 61) rfl))) (by decide) (t := .long) (t' := (.object "java/lang/String")) (by decide) (by decide)))
  have F176 : Fld Z h76 q5_0 "com/example/names_for_good/namesforgood/protocol/EncodedValue" "index" "J" (.long q5_4) := F175.other W76 (Or.inr (slot_ne (Or.inr (hw _ (List.mem_of_getElem? (i := 51) rfl))) (Or.inr (hw _ (List.mem_of_getElem? (i := 63) rfl))) (by decide) (t := .long) (t' := .int) (by decide) (by decide)))
  have F177 : Fld Z h89 q5_0 "com/example/names_for_good/namesforgood/protocol/EncodedValue" "index" "J" (.long q5_4) := F176.other W89 (Or.inr (slot_ne (Or.inr (hw _ (List.mem_of_getElem? (i := 51) rfl))) (Or.inr (hw _ (List.mem_of_getElem? (i := 65) rfl))) (by decide) (t := .long) (t' := .int) (by decide) (by decide)))
  have F178 : Fld Z h103 q5_0 "com/example/names_for_good/namesforgood/protocol/EncodedValue" "index" "J" (.long q5_4) := F177.other W103 (Or.inr (slot_ne (Or.inr (hw _ (List.mem_of_getElem? (i := 51) rfl))) (Or.inr (hw _ (List.mem_of_getElem? (i := 67) rfl))) (by decide) (t := .long) (t' := .int) (by decide) (by decide)))
  have F179 : Fld Z h118 q5_0 "com/example/names_for_good/namesforgood/protocol/EncodedValue" "index" "J" (.long q5_4) := F178.other W118 (Or.inr (slot_ne (Or.inr (hw _ (List.mem_of_getElem? (i := 51) rfl))) (Or.inr (hw _ (List.mem_of_getElem? (i := 69) rfl))) (by decide) (t := .long) (t' := .int) (by decide) (by decide)))
  have F180 : Fld Z h134 q5_0 "com/example/names_for_good/namesforgood/protocol/EncodedValue" "index" "J" (.long q5_4) := F179.other W134 (Or.inr (slot_ne (Or.inr (hw _ (List.mem_of_getElem? (i := 51) rfl))) (Or.inr (hw _ (List.mem_of_getElem? (i := 71) rfl))) (by decide) (t := .long) (t' := (.object "java/util/List")) (by decide) (by decide)))
  have F181 : Fld Z h34 q5_0 "com/example/names_for_good/namesforgood/protocol/EncodedValue" "timestamp" "J" (.long q5_5) := F26w.other W34 (Or.inr (slot_ne (Or.inr (hw _ (List.mem_of_getElem? (i := 53) rfl))) (Or.inr (hw _ (List.mem_of_getElem? (i := 55) rfl))) (by decide) (t := .long) (t' := (.object "com/example/names_for_good/namesforgood/records/HandleValue$TtlType")) (by decide) (by decide)))
  have F182 : Fld Z h43 q5_0 "com/example/names_for_good/namesforgood/protocol/EncodedValue" "timestamp" "J" (.long q5_5) := F181.other W43 (Or.inr (slot_ne (Or.inr (hw _ (List.mem_of_getElem? (i := 53) rfl))) (Or.inr (hw _ (List.mem_of_getElem? (i := 57) rfl))) (by decide) (t := .long) (t' := .long) (by decide) (by decide)))
  have F183 : Fld Z h53 q5_0 "com/example/names_for_good/namesforgood/protocol/EncodedValue" "timestamp" "J" (.long q5_5) := F182.other W53 (Or.inr (slot_ne (Or.inr (hw _ (List.mem_of_getElem? (i := 53) rfl))) (Or.inr (hw _ (List.mem_of_getElem? (i := 59) rfl))) (by decide) (t := .long) (t' := .int) (by decide) (by decide)))
  have F184 : Fld Z h64 q5_0 "com/example/names_for_good/namesforgood/protocol/EncodedValue" "timestamp" "J" (.long q5_5) := F183.other W64 (Or.inr (slot_ne (Or.inr (hw _ (List.mem_of_getElem? (i := 53) rfl))) (Or.inr (hw _ (List.mem_of_getElem? (i := 61) rfl))) (by decide) (t := .long) (t' := (.object "java/lang/String")) (by decide) (by decide)))
  have F185 : Fld Z h76 q5_0 "com/example/names_for_good/namesforgood/protocol/EncodedValue" "timestamp" "J" (.long q5_5) := F184.other W76 (Or.inr (slot_ne (Or.inr (hw _ (List.mem_of_getElem? (i := 53) rfl))) (Or.inr (hw _ (List.mem_of_getElem? (i := 63) rfl))) (by decide) (t := .long) (t' := .int) (by decide) (by decide)))
  have F186 : Fld Z h89 q5_0 "com/example/names_for_good/namesforgood/protocol/EncodedValue" "timestamp" "J" (.long q5_5) := F185.other W89 (Or.inr (slot_ne (Or.inr (hw _ (List.mem_of_getElem? (i := 53) rfl))) (Or.inr (hw _ (List.mem_of_getElem? (i := 65) rfl))) (by decide) (t := .long) (t' := .int) (by decide) (by decide)))
  have F187 : Fld Z h103 q5_0 "com/example/names_for_good/namesforgood/protocol/EncodedValue" "timestamp" "J" (.long q5_5) := F186.other W103 (Or.inr (slot_ne (Or.inr (hw _ (List.mem_of_getElem? (i := 53) rfl))) (Or.inr (hw _ (List.mem_of_getElem? (i := 67) rfl))) (by decide) (t := .long) (t' := .int) (by decide) (by decide)))
  have F188 : Fld Z h118 q5_0 "com/example/names_for_good/namesforgood/protocol/EncodedValue" "timestamp" "J" (.long q5_5) := F187.other W118 (Or.inr (slot_ne (Or.inr (hw _ (List.mem_of_getElem? (i := 53) rfl))) (Or.inr (hw _ (List.mem_of_getElem? (i := 69) rfl))) (by decide) (t := .long) (t' := .int) (by decide) (by decide)))
  have F189 : Fld Z h134 q5_0 "com/example/names_for_good/namesforgood/protocol/EncodedValue" "timestamp" "J" (.long q5_5) := F188.other W134 (Or.inr (slot_ne (Or.inr (hw _ (List.mem_of_getElem? (i := 53) rfl))) (Or.inr (hw _ (List.mem_of_getElem? (i := 71) rfl))) (by decide) (t := .long) (t' := (.object "java/util/List")) (by decide) (by decide)))
  have F190 : Fld Z h43 q5_0 "com/example/names_for_good/namesforgood/protocol/EncodedValue" "ttlType" "Lcom/example/names_for_good/namesforgood/records/HandleValue$TtlType;" (.ref q5_6) := F34w.other W43 (Or.inr (slot_ne (Or.inr (hw _ (List.mem_of_getElem? (i := 55) rfl))) (Or.inr (hw _ (List.mem_of_getElem? (i := 57) rfl))) (by decide) (t := (.object "com/example/names_for_good/namesforgood/records/HandleValue$TtlType")) (t' := .long) (by decide) (by decide)))
  have F191 : Fld Z h53 q5_0 "com/example/names_for_good/namesforgood/protocol/EncodedValue" "ttlType" "Lcom/example/names_for_good/namesforgood/records/HandleValue$TtlType;" (.ref q5_6) := F190.other W53 (Or.inr (slot_ne (Or.inr (hw _ (List.mem_of_getElem? (i := 55) rfl))) (Or.inr (hw _ (List.mem_of_getElem? (i := 59) rfl))) (by decide) (t := (.object "com/example/names_for_good/namesforgood/records/HandleValue$TtlType")) (t' := .int) (by decide) (by decide)))
  have F192 : Fld Z h64 q5_0 "com/example/names_for_good/namesforgood/protocol/EncodedValue" "ttlType" "Lcom/example/names_for_good/namesforgood/records/HandleValue$TtlType;" (.ref q5_6) := F191.other W64 (Or.inr (slot_ne (Or.inr (hw _ (List.mem_of_getElem? (i := 55) rfl))) (Or.inr (hw _ (List.mem_of_getElem? (i := 61) rfl))) (by decide) (t := (.object "com/example/names_for_good/namesforgood/records/HandleValue$TtlType")) (t' := (.object "java/lang/String")) (by decide) (by decide)))
  have F193 : Fld Z h76 q5_0 "com/example/names_for_good/namesforgood/protocol/EncodedValue" "ttlType" "Lcom/example/names_for_good/namesforgood/records/HandleValue$TtlType;" (.ref q5_6) := F192.other W76 (Or.inr (slot_ne (Or.inr (hw _ (List.mem_of_getElem? (i := 55) rfl))) (Or.inr (hw _ (List.mem_of_getElem? (i := 63) rfl))) (by decide) (t := (.object "com/example/names_for_good/namesforgood/records/HandleValue$TtlType")) (t' := .int) (by decide) (by decide)))
  have F194 : Fld Z h89 q5_0 "com/example/names_for_good/namesforgood/protocol/EncodedValue" "ttlType" "Lcom/example/names_for_good/namesforgood/records/HandleValue$TtlType;" (.ref q5_6) := F193.other W89 (Or.inr (slot_ne (Or.inr (hw _ (List.mem_of_getElem? (i := 55) rfl))) (Or.inr (hw _ (List.mem_of_getElem? (i := 65) rfl))) (by decide) (t := (.object "com/example/names_for_good/namesforgood/records/HandleValue$TtlType")) (t' := .int) (by decide) (by decide)))
  have F195 : Fld Z h103 q5_0 "com/example/names_for_good/namesforgood/protocol/EncodedValue" "ttlType" "Lcom/example/names_for_good/namesforgood/records/HandleValue$TtlType;" (.ref q5_6) := F194.other W103 (Or.inr (slot_ne (Or.inr (hw _ (List.mem_of_getElem? (i := 55) rfl))) (Or.inr (hw _ (List.mem_of_getElem? (i := 67) rfl))) (by decide) (t := (.object "com/example/names_for_good/namesforgood/records/HandleValue$TtlType")) (t' := .int) (by decide) (by decide)))
  have F196 : Fld Z h118 q5_0 "com/example/names_for_good/namesforgood/protocol/EncodedValue" "ttlType" "Lcom/example/names_for_good/namesforgood/records/HandleValue$TtlType;" (.ref q5_6) := F195.other W118 (Or.inr (slot_ne (Or.inr (hw _ (List.mem_of_getElem? (i := 55) rfl))) (Or.inr (hw _ (List.mem_of_getElem? (i := 69) rfl))) (by decide) (t := (.object "com/example/names_for_good/namesforgood/records/HandleValue$TtlType")) (t' := .int) (by decide) (by decide)))
  have F197 : Fld Z h134 q5_0 "com/example/names_for_good/namesforgood/protocol/EncodedValue" "ttlType" "Lcom/example/names_for_good/namesforgood/records/HandleValue$TtlType;" (.ref q5_6) := F196.other W134 (Or.inr (slot_ne (Or.inr (hw _ (List.mem_of_getElem? (i := 55) rfl))) (Or.inr (hw _ (List.mem_of_getElem? (i := 71) rfl))) (by decide) (t := (.object "com/example/names_for_good/namesforgood/records/HandleValue$TtlType")) (t' := (.object "java/util/List")) (by decide) (by decide)))
  have F198 : Fld Z h53 q5_0 "com/example/names_for_good/namesforgood/protocol/EncodedValue" "ttl" "J" (.long q5_7) := F43w.other W53 (Or.inr (slot_ne (Or.inr (hw _ (List.mem_of_getElem? (i := 57) rfl))) (Or.inr (hw _ (List.mem_of_getElem? (i := 59) rfl))) (by decide) (t := .long) (t' := .int) (by decide) (by decide)))
  have F199 : Fld Z h64 q5_0 "com/example/names_for_good/namesforgood/protocol/EncodedValue" "ttl" "J" (.long q5_7) := F198.other W64 (Or.inr (slot_ne (Or.inr (hw _ (List.mem_of_getElem? (i := 57) rfl))) (Or.inr (hw _ (List.mem_of_getElem? (i := 61) rfl))) (by decide) (t := .long) (t' := (.object "java/lang/String")) (by decide) (by decide)))
  have F200 : Fld Z h76 q5_0 "com/example/names_for_good/namesforgood/protocol/EncodedValue" "ttl" "J" (.long q5_7) := F199.other W76 (Or.inr (slot_ne (Or.inr (hw _ (List.mem_of_getElem? (i := 57) rfl))) (Or.inr (hw _ (List.mem_of_getElem? (i := 63) rfl))) (by decide) (t := .long) (t' := .int) (by decide) (by decide)))
  have F201 : Fld Z h89 q5_0 "com/example/names_for_good/namesforgood/protocol/EncodedValue" "ttl" "J" (.long q5_7) := F200.other W89 (Or.inr (slot_ne (Or.inr (hw _ (List.mem_of_getElem? (i := 57) rfl))) (Or.inr (hw _ (List.mem_of_getElem? (i := 65) rfl))) (by decide) (t := .long) (t' := .int) (by decide) (by decide)))
  have F202 : Fld Z h103 q5_0 "com/example/names_for_good/namesforgood/protocol/EncodedValue" "ttl" "J" (.long q5_7) := F201.other W103 (Or.inr (slot_ne (Or.inr (hw _ (List.mem_of_getElem? (i := 57) rfl))) (Or.inr (hw _ (List.mem_of_getElem? (i := 67) rfl))) (by decide) (t := .long) (t' := .int) (by decide) (by decide)))
  have F203 : Fld Z h118 q5_0 "com/example/names_for_good/namesforgood/protocol/EncodedValue" "ttl" "J" (.long q5_7) := F202.other W118 (Or.inr (slot_ne (Or.inr (hw _ (List.mem_of_getElem? (i := 57) rfl))) (Or.inr (hw _ (List.mem_of_getElem? (i := 69) rfl))) (by decide) (t := .long) (t' := .int) (by decide) (by decide)))
  have F204 : Fld Z h134 q5_0 "com/example/names_for_good/namesforgood/protocol/EncodedValue" "ttl" "J" (.long q5_7) := F203.other W134 (Or.inr (slot_ne (Or.inr (hw _ (List.mem_of_getElem? (i := 57) rfl))) (Or.inr (hw _ (List.mem_of_getElem? (i := 71) rfl))) (by decide) (t := .long) (t' := (.object "java/util/List")) (by decide) (by decide)))
  have F205 : Fld Z h64 q5_0 "com/example/names_for_good/namesforgood/protocol/EncodedValue" "permissions" "I" (.int q5_8) := F53w.other W64 (Or.inr (slot_ne (Or.inr (hw _ (List.mem_of_getElem? (i := 59) rfl))) (Or.inr (hw _ (List.mem_of_getElem? (i := 61) rfl))) (by decide) (t := .int) (t' := (.object "java/lang/String")) (by decide) (by decide)))
  have F206 : Fld Z h76 q5_0 "com/example/names_for_good/namesforgood/protocol/EncodedValue" "permissions" "I" (.int q5_8) := F205.other W76 (Or.inr (slot_ne (Or.inr (hw _ (List.mem_of_getElem? (i := 59) rfl))) (Or.inr (hw _ (List.mem_of_getElem? (i := 63) rfl))) (by decide) (t := .int) (t' := .int) (by decide) (by decide)))
  have F207 : Fld Z h89 q5_0 "com/example/names_for_good/namesforgood/protocol/EncodedValue" "permissions" "I" (.int q5_8) := F206.other W89 (Or.inr (slot_ne (Or.inr (hw _ (List.mem_of_getElem? (i := 59) rfl))) (Or.inr (hw _ (List.mem_of_getElem? (i := 65) rfl))) (by decide) (t := .int) (t' := .int) (by decide) (by decide)))
  have F208 : Fld Z h103 q5_0 "com/example/names_for_good/namesforgood/protocol/EncodedValue" "permissions" "I" (.int q5_8) := F207.other W103 (Or.inr (slot_ne (Or.inr (hw _ (List.mem_of_getElem? (i := 59) rfl))) (Or.inr (hw _ (List.mem_of_getElem? (i := 67) rfl))) (by decide) (t := .int) (t' := .int) (by decide) (by decide)))
  have F209 : Fld Z h118 q5_0 "com/example/names_for_good/namesforgood/protocol/EncodedValue" "permissions" "I" (.int q5_8) := F208.other W118 (Or.inr (slot_ne (Or.inr (hw _ (List.mem_of_getElem? (i := 59) rfl))) (Or.inr (hw _ (List.mem_of_getElem? (i := 69) rfl))) (by decide) (t := .int) (t' := .int) (by decide) (by decide)))
  have F210 : Fld Z h134 q5_0 "com/example/names_for_good/namesforgood/protocol/EncodedValue" "permissions" "I" (.int q5_8) := F209.other W134 (Or.inr (slot_ne (Or.inr (hw _ (List.mem_of_getElem? (i := 59) rfl))) (Or.inr (hw _ (List.mem_of_getElem? (i := 71) rfl))) (by decide) (t := .int) (t' := (.object "java/util/List")) (by decide) (by decide)))
  have F211 : Fld Z h76 q5_0 "com/example/names_for_good/namesforgood/protocol/EncodedValue" "type" "Ljava/lang/String;" (.ref q5_9) := F64w.other W76 (Or.inr (slot_ne (Or.inr (hw _ (List.mem_of_getElem? (i := 61) rfl))) (Or.inr (hw _ (List.mem_of_getElem? (i := 63) rfl))) (by decide) (t := (.object "java/lang/String")) (t' := .int) (by decide) (by decide)))
  have F212 : Fld Z h89 q5_0 "com/example/names_for_good/namesforgood/protocol/EncodedValue" "type" "Ljava/lang/String;" (.ref q5_9) := F211.other W89 (Or.inr (slot_ne (Or.inr (hw _ (List.mem_of_getElem? (i := 61) rfl))) (Or.inr (hw _ (List.mem_of_getElem? (i := 65) rfl))) (by decide) (t := (.object "java/lang/String")) (t' := .int) (by decide) (by decide)))
  have F213 : Fld Z h103 q5_0 "com/example/names_for_good/namesforgood/protocol/EncodedValue" "type" "Ljava/lang/String;" (.ref q5_9) := F212.other W103 (Or.inr (slot_ne (Or.inr (hw _ (List.mem_of_getElem? (i := 61) rfl))) (Or.inr (hw _ (List.mem_of_getElem? (i := 67) rfl))) (by decide) (t := (.object "java/lang/String")) (t' := .int) (by decide) (by decide)))
  have F214 : Fld Z h118 q5_0 "com/example/names_for_good/namesforgood/protocol/EncodedValue" "type" "Ljava/lang/String;" (.ref q5_9) := F213.other W118 (Or.inr (slot_ne (Or.inr (hw _ (List.mem_of_getElem? (i := 61) rfl))) (Or.inr (hw _ (List.mem_of_getElem? (i := 69) rfl))) (by decide) (t := (.object "java/lang/String")) (t' := .int) (by decide) (by decide)))
  have F215 : Fld Z h134 q5_0 "com/example/names_for_good/namesforgood/protocol/EncodedValue" "type" "Ljava/lang/String;" (.ref q5_9) := F214.other W134 (Or.inr (slot_ne (Or.inr (hw _ (List.mem_of_getElem? (i := 61) rfl))) (Or.inr (hw _ (List.mem_of_getElem? (i := 71) rfl))) (by decide) (t := (.object "java/lang/String")) (t' := (.object "java/util/List")) (by decide) (by decide)))
  have F216 : Fld Z h89 q5_0 "com/example/names_for_good/namesforgood/protocol/EncodedValue" "typeFrom" "I" (.int q5_10) := F76w.other W89 (Or.inr (slot_ne (Or.inr (hw _ (List.mem_of_getElem? (i := 63) rfl))) (Or.inr (hw _ (List.mem_of_getElem? (i := 65) rfl))) (by decide) (t := .int) (t' := .int) (by decide) (by decide)))
  have F217 : Fld Z h103 q5_0 "com/example/names_for_good/namesforgood/protocol/EncodedValue" "typeFrom" "I" (.int q5_10) := F216.other W103 (Or.inr (slot_ne (Or.inr (hw _ (List.mem_of_getElem? (i := 63) rfl))) (Or.inr (hw _ (List.mem_of_getElem? (i := 67) rfl))) (by decide) (t := .int) (t' := .int) (by decide) (by decide)))
  have F218 : Fld Z h118 q5_0 "com/example/names_for_good/namesforgood/protocol/EncodedValue" "typeFrom" "I" (.int q5_10) := F217.other W118 (Or.inr (slot_ne (Or.inr (hw _ (List.mem_of_getElem? (i := 63) rfl))) (Or.inr (hw _ (List.mem_of_getElem? (i := 69) rfl))) (by decide) (t := .int) (t' := .int) (by decide) (by decide)))
  have F219 : Fld Z h134 q5_0 "com/example/names_for_good/namesforgood/protocol/EncodedValue" "typeFrom" "I" (.int q5_10) := F218.other W134 (Or.inr (slot_ne (Or.inr (hw _ (List.mem_of_getElem? (i := 63) rfl))) (Or.inr (hw _ (List.mem_of_getElem? (i := 71) rfl))) (by decide) (t := .int) (t' := (.object "java/util/List")) (by decide) (by decide)))
  have F220 : Fld Z h103 q5_0 "com/example/names_for_good/namesforgood/protocol/EncodedValue" "typeLength" "I" (.int q5_11) := F89w.other W103 (Or.inr (slot_ne (Or.inr (hw _ (List.mem_of_getElem? (i := 65) rfl))) (Or.inr (hw _ (List.mem_of_getElem? (i := 67) rfl))) (by decide) (t := .int) (t' := .int) (by decide) (by decide)))
  have F221 : Fld Z h118 q5_0 "com/example/names_for_good/namesforgood/protocol/EncodedValue" "typeLength" "I" (.int q5_11) := F220.other W118 (Or.inr (slot_ne (Or.inr (hw _ (List.mem_of_getElem? (i := 65) rfl))) (Or.inr (hw _ (List.mem_of_getElem? (i := 69) rfl))) (by decide) (t := .int) (t' := .int) (by decide) (by decide)))
  have F222 : Fld Z h134 q5_0 "com/example/names_for_good/namesforgood/protocol/EncodedValue" "typeLength" "I" (.int q5_11) := F221.other W134 (Or.inr (slot_ne (Or.inr (hw _ (List.mem_of_getElem? (i := 65) rfl))) (Or.inr (hw _ (List.mem_of_getElem? (i := 71) rfl))) (by decide) (t := .int) (t' := (.object "java/util/List")) (by decide) (by decide)))
  have F223 : Fld Z h118 q5_0 "com/example/names_for_good/namesforgood/protocol/EncodedValue" "dataFrom" "I" (.int q5_12) := F103w.other W118 (Or.inr (slot_ne (Or.inr (hw _ (List.mem_of_getElem? (i := 67) rfl))) (Or.inr (hw _ (List.mem_of_getElem? (i := 69) rfl))) (by decide) (t := .int) (t' := .int) (by decide) (by decide)))
  have F224 : Fld Z h134 q5_0 "com/example/names_for_good/namesforgood/protocol/EncodedValue" "dataFrom" "I" (.int q5_12) := F223.other W134 (Or.inr (slot_ne (Or.inr (hw _ (List.mem_of_getElem? (i := 67) rfl))) (Or.inr (hw _ (List.mem_of_getElem? (i := 71) rfl))) (by decide) (t := .int) (t' := (.object "java/util/List")) (by decide) (by decide)))
  have F225 : Fld Z h134 q5_0 "com/example/names_for_good/namesforgood/protocol/EncodedValue" "dataLength" "I" (.int q5_13) := F118w.other W134 (Or.inr (slot_ne (Or.inr (hw _ (List.mem_of_getElem? (i := 69) rfl))) (Or.inr (hw _ (List.mem_of_getElem? (i := 71) rfl))) (by decide) (t := .int) (t' := (.object "java/util/List")) (by decide) (by decide)))
  obtain ⟨fs, hr, hrun, hended, hW, hsame⟩ := X134.leave (v := none) (fun _ => rfl)
  refine ⟨_, _, own_from hE0 (P134 _ ?_), hrun, hended, _, _, rfl, ?_, ⟨_, rfl⟩, hW, hsame.mono (by decide) (by decide)⟩
  · show Steps p.tables e below (T134.setTop (mkF m 85 #[.val (.ref q5_0), .val (.ref q5_1), .val (.int q5_2), .val (.int q5_3), .val (.long q5_4), .second, .val (.long q5_5), .second, .val (.ref q5_6), .val (.long q5_7), .second, .val (.int q5_8), .val (.ref q5_9), .val (.int q5_10), .val (.int q5_11), .val (.int q5_12), .val (.int q5_13), .val (.ref q5_14)] [])) _
    exact X134.returnOut hx Bd.returns (hb hby d5_85) hr
  · show Q5 Z q5_0 q5_1 q5_2 q5_3 q5_4 q5_5 q5_6 q5_7 q5_8 q5_9 q5_10 q5_11 q5_12 q5_13 q5_14 u5_q5_0_octets u5_q5_0_from u5_q5_0_to u5_q5_0_index u5_q5_0_timestamp u5_q5_0_ttlType u5_q5_0_ttl u5_q5_0_permissions u5_q5_0_type u5_q5_0_typeFrom u5_q5_0_typeLength u5_q5_0_dataFrom u5_q5_0_dataLength u5_q5_0_references h0 n0 _ T134.heap _
    rw [e134]
    exact ⟨rfl, N134, K134, F147, F159, F170, F180, F189, F197, F204, F210, F215, F219, F222, F224, F225, F134w⟩
theorem d6_0 : decode prog_26_method_6_code 0 = .ok (.aload_n 0, 1) := by decide +kernel
theorem d6_1 : decode prog_26_method_6_code 1 = .ok (.getfield 34, 3) := by decide +kernel
theorem d6_4 : decode prog_26_method_6_code 4 = .ok (.iconst 2, 1) := by decide +kernel
theorem d6_5 : decode prog_26_method_6_code 5 = .ok (.iand, 1) := by decide +kernel
theorem d6_6 : decode prog_26_method_6_code 6 = .ok (.ifCond .eq 7, 3) := by decide +kernel
theorem d6_9 : decode prog_26_method_6_code 9 = .ok (.iconst 1, 1) := by decide +kernel
theorem d6_10 : decode prog_26_method_6_code 10 = .ok (.goto 4, 3) := by decide +kernel
theorem d6_13 : decode prog_26_method_6_code 13 = .ok (.iconst 0, 1) := by decide +kernel
theorem d6_14 : decode prog_26_method_6_code 14 = .ok (.ireturn, 1) := by decide +kernel
theorem ef_6 (m : MethodId) (q6_0 : Addr) : entryFrame m #[(.ref q6_0)] 1 = mkF m 0 #[.val (.ref q6_0)] [] := by first | (simp [entryFrame, mkF, argsToLocals, Value.category]; done) | rfl
def r6 (w6_q6_0_permissions : Int32) : Int32 := (if (w6_q6_0_permissions &&& (2 : Int32)) = (0 : Int32) then (0 : Int32) else (1 : Int32))
def Q6 (Z : State) (q6_0 : Addr) (w6_q6_0_permissions : Int32) (h0 : Heap) (n0 : Nat) (v : Option Value) (h : Heap) (L : List Loc) : Prop := v = some (.int (r6 w6_q6_0_permissions)) ∧ Fr n0 L ∧ h = h0
set_option maxRecDepth 65536 in
set_option maxHeartbeats 40000000 in
theorem rm6 (l : Launch) (Z : State) (a0 : Array Value) (hw : ∀ d ∈ tables_1, d.before a0 Z = true) (ws : List Jvm.Cond) (q6_0 : Addr) (w6_q6_0_permissions : Int32) (h0 : Heap) (n0 : Nat) (Z0 : n0 ≤ h0.size) (F_q6_0_permissions : Fld Z h0 q6_0 "com/example/names_for_good/namesforgood/protocol/EncodedValue" "permissions" "I" (.int w6_q6_0_permissions)) :
    MetFree l (⟨"com/example/names_for_good/namesforgood/protocol/EncodedValue", "isPubliclyReadable", "()Z"⟩ : MethodName) (head1 (Jvm.Cond.code (⟨"com/example/names_for_good/namesforgood/protocol/EncodedValue", "isPubliclyReadable", "()Z"⟩ : MethodName) prog_26_method_6_code 1 (some .boolean) :: ws) ({ frames := 0, cells := 0, slots := 0, locals := 0 } : Room)) (fun a U => a = #[(.ref q6_0)] ∧ Z.Warmed39 U.vm ∧ U.heap = h0) (fun _ _ _ _ _ => True) (fun _ U o U' => ∃ v L, o = .returned v ∧ Q6 Z q6_0 w6_q6_0_permissions h0 n0 v U'.heap L ∧ FrameEnd U o U' L ({ frames := 0, cells := 0, slots := 0, locals := 0 } : Room).cells ({ frames := 0, cells := 0, slots := 0, locals := 0 } : Room).slots) := by
  refine MetFree.of_bodySF (plainFor_of_name pn_5) hisR ?_
  intro p e s m args below meth c s₁ Bd hml0 hP hK
  obtain ⟨rfl, hZ, hh⟩ := hP
  have hx := Bd.exec
  have hby := Bd.bytes
  have hml : c.maxLocals = 1 := hml0
  have hown : s.vm.findClass "com/example/names_for_good/namesforgood/protocol/EncodedValue" = some m.cls := findClass_of_methodNamed Bd.named
  have hnm := (name_of_methodNamed Bd.named Bd.method).1
  have X0 : Stand p l e ({ frames := 0, cells := 0, slots := 0, locals := 0 } : Room) s m #[(.ref q6_0)] below meth c s₁ [] 0 0 := Stand.of_body Bd
  have e0 : s₁.heap = h0 := by rw [← hh, Bd.state]; rfl
  have N0 := Fr.nil n0
  obtain ⟨S0, hE0⟩ : ∃ z, z = s₁.setTop (entryFrame m #[(.ref q6_0)] 1) := ⟨_, rfl⟩
  have P0 : own_Go p e below S0 (s₁.setTop (mkF m 0 #[.val (.ref q6_0)] [])) := fun t k => by rw [hE0]; exact castTop (ef_6 m q6_0) k
  have P1 : own_Go p e below S0 (s₁.setTop (mkF m 1 #[.val (.ref q6_0)] [(.ref q6_0)])) := fun t k => P0 t (by
    show Steps p.tables e below (s₁.setTop (mkF m 0 #[.val (.ref q6_0)] [])) t
    refine XS.aloadN X0.here hx rfl (hb hby d6_0) rfl rfl ?_
    show Steps p.tables e below (s₁.setTop (mkF m 1 #[.val (.ref q6_0)] [(.ref q6_0)])) t
    exact k)
  obtain ⟨T2, X2, e2, st2⟩ := getF X0 hx hZ hown (host := "") (Or.inl (hw _ (List.mem_of_getElem? (i := 58) rfl))) Via.refl e0 F_q6_0_permissions (g := (mkF m 1 #[.val (.ref q6_0)] [(.ref q6_0)])) rfl rfl (hb hby d6_1)
  have P2 : own_Go p e below S0 (T2.setTop (mkF m 4 #[.val (.ref q6_0)] [(.int w6_q6_0_permissions)])) := fun t k => P1 t (st2 _ k)
  have P3 : own_Go p e below S0 (T2.setTop (mkF m 6 #[.val (.ref q6_0)] [(.int (w6_q6_0_permissions &&& (2 : Int32)))])) := fun t k => P2 t (by
    show Steps p.tables e below (T2.setTop (mkF m 4 #[.val (.ref q6_0)] [(.int w6_q6_0_permissions)])) t
    refine XS.iconst X2.here hx rfl (hb hby d6_4) ?_
    refine XS.iand X2.here hx rfl (hb hby d6_5) rfl ?_
    show Steps p.tables e below (T2.setTop (mkF m 6 #[.val (.ref q6_0)] [(.int (w6_q6_0_permissions &&& (2 : Int32)))])) t
    exact k)
  by_cases c4 : (w6_q6_0_permissions &&& (2 : Int32)) = (0 : Int32)
  · skip
    have P5 : own_Go p e below S0 (T2.setTop (mkF m 14 #[.val (.ref q6_0)] [(.int (0 : Int32))])) := fun t k => P3 t (by
      show Steps p.tables e below (T2.setTop (mkF m 6 #[.val (.ref q6_0)] [(.int (w6_q6_0_permissions &&& (2 : Int32)))])) t
      refine XS.ifYes X2.here hx rfl (pc0 := 6) (pc' := 13) rfl (hb hby d6_6) rfl ((if0 _ _).trans (teq c4).1) (by decide) (by decide) ?_
      refine XS.iconst X2.here hx rfl (hb hby d6_13) ?_
      show Steps p.tables e below (T2.setTop (mkF m 14 #[.val (.ref q6_0)] [(.int (0 : Int32))])) t
      exact k)
    obtain ⟨fs, hr, hrun, hended, hW, hsame⟩ := X2.leave (v := some (.int (0 : Int32))) (fun h => by rw [Bd.returns] at h; cases h)
    refine ⟨_, _, own_from hE0 (P5 _ ?_), hrun, hended, _, _, rfl, ?_, ⟨_, rfl⟩, hW, hsame.mono (by decide) (by decide)⟩
    · show Steps p.tables e below (T2.setTop (mkF m 14 #[.val (.ref q6_0)] [(.int (0 : Int32))])) _
      exact retN X2 hx (t := .boolean) Bd.returns (by simp) (hb hby d6_14) hr
    · show Q6 Z q6_0 w6_q6_0_permissions h0 n0 _ T2.heap _
      rw [e2]
      exact ⟨(congrArg (fun z => some (Value.int z)) (Eq.symm (if_pos c4))), N0, rfl⟩
  · skip
    have P6 : own_Go p e below S0 (T2.setTop (mkF m 14 #[.val (.ref q6_0)] [(.int (1 : Int32))])) := fun t k => P3 t (by
      show Steps p.tables e below (T2.setTop (mkF m 6 #[.val (.ref q6_0)] [(.int (w6_q6_0_permissions &&& (2 : Int32)))])) t
      refine XS.ifNo X2.here hx rfl (hb hby d6_6) rfl ((if0 _ _).trans (feq c4).1) ?_
      refine XS.iconst X2.here hx rfl (hb hby d6_9) ?_
      refine XS.goto X2.here hx rfl (pc0 := 10) (pc' := 14) rfl (hb hby d6_10) (by decide) (by decide) ?_
      show Steps p.tables e below (T2.setTop (mkF m 14 #[.val (.ref q6_0)] [(.int (1 : Int32))])) t
      exact k)
    obtain ⟨fs, hr, hrun, hended, hW, hsame⟩ := X2.leave (v := some (.int (1 : Int32))) (fun h => by rw [Bd.returns] at h; cases h)
    refine ⟨_, _, own_from hE0 (P6 _ ?_), hrun, hended, _, _, rfl, ?_, ⟨_, rfl⟩, hW, hsame.mono (by decide) (by decide)⟩
    · show Steps p.tables e below (T2.setTop (mkF m 14 #[.val (.ref q6_0)] [(.int (1 : Int32))])) _
      exact retN X2 hx (t := .boolean) Bd.returns (by simp) (hb hby d6_14) hr
    · show Q6 Z q6_0 w6_q6_0_permissions h0 n0 _ T2.heap _
      rw [e2]
      exact ⟨(congrArg (fun z => some (Value.int z)) (Eq.symm (if_neg c4))), N0, rfl⟩
theorem d7_0 : decode prog_26_method_4_code 0 = .ok (.aload_n 0, 1) := by decide +kernel
theorem d7_1 : decode prog_26_method_4_code 1 = .ok (.getfield 34, 3) := by decide +kernel
theorem d7_4 : decode prog_26_method_4_code 4 = .ok (.ireturn, 1) := by decide +kernel
theorem ef_7 (m : MethodId) (q7_0 : Addr) : entryFrame m #[(.ref q7_0)] 1 = mkF m 0 #[.val (.ref q7_0)] [] := by first | (simp [entryFrame, mkF, argsToLocals, Value.category]; done) | rfl
def Q7 (Z : State) (q7_0 : Addr) (w7_q7_0_permissions : Int32) (h0 : Heap) (n0 : Nat) (v : Option Value) (h : Heap) (L : List Loc) : Prop := v = some (.int w7_q7_0_permissions) ∧ Fr n0 L ∧ h = h0
set_option maxRecDepth 65536 in
set_option maxHeartbeats 40000000 in
theorem rm7 (l : Launch) (Z : State) (a0 : Array Value) (hw : ∀ d ∈ tables_1, d.before a0 Z = true) (ws : List Jvm.Cond) (q7_0 : Addr) (w7_q7_0_permissions : Int32) (h0 : Heap) (n0 : Nat) (Z0 : n0 ≤ h0.size) (F_q7_0_permissions : Fld Z h0 q7_0 "com/example/names_for_good/namesforgood/protocol/EncodedValue" "permissions" "I" (.int w7_q7_0_permissions)) :
    MetFree l (⟨"com/example/names_for_good/namesforgood/protocol/EncodedValue", "permissions", "()I"⟩ : MethodName) (head1 (Jvm.Cond.code (⟨"com/example/names_for_good/namesforgood/protocol/EncodedValue", "permissions", "()I"⟩ : MethodName) prog_26_method_4_code 1 (some .int) :: ws) ({ frames := 0, cells := 0, slots := 0, locals := 0 } : Room)) (fun a U => a = #[(.ref q7_0)] ∧ Z.Warmed39 U.vm ∧ U.heap = h0) (fun _ _ _ _ _ => True) (fun _ U o U' => ∃ v L, o = .returned v ∧ Q7 Z q7_0 w7_q7_0_permissions h0 n0 v U'.heap L ∧ FrameEnd U o U' L ({ frames := 0, cells := 0, slots := 0, locals := 0 } : Room).cells ({ frames := 0, cells := 0, slots := 0, locals := 0 } : Room).slots) := by
  refine MetFree.of_bodySF (plainFor_of_name pn_5) hisR ?_
  intro p e s m args below meth c s₁ Bd hml0 hP hK
  obtain ⟨rfl, hZ, hh⟩ := hP
  have hx := Bd.exec
  have hby := Bd.bytes
  have hml : c.maxLocals = 1 := hml0
  have hown : s.vm.findClass "com/example/names_for_good/namesforgood/protocol/EncodedValue" = some m.cls := findClass_of_methodNamed Bd.named
  have hnm := (name_of_methodNamed Bd.named Bd.method).1
  have X0 : Stand p l e ({ frames := 0, cells := 0, slots := 0, locals := 0 } : Room) s m #[(.ref q7_0)] below meth c s₁ [] 0 0 := Stand.of_body Bd
  have e0 : s₁.heap = h0 := by rw [← hh, Bd.state]; rfl
  have N0 := Fr.nil n0
  obtain ⟨S0, hE0⟩ : ∃ z, z = s₁.setTop (entryFrame m #[(.ref q7_0)] 1) := ⟨_, rfl⟩
  have P0 : own_Go p e below S0 (s₁.setTop (mkF m 0 #[.val (.ref q7_0)] [])) := fun t k => by rw [hE0]; exact castTop (ef_7 m q7_0) k
  have P1 : own_Go p e below S0 (s₁.setTop (mkF m 1 #[.val (.ref q7_0)] [(.ref q7_0)])) := fun t k => P0 t (by
    show Steps p.tables e below (s₁.setTop (mkF m 0 #[.val (.ref q7_0)] [])) t
    refine XS.aloadN X0.here hx rfl (hb hby d7_0) rfl rfl ?_
    show Steps p.tables e below (s₁.setTop (mkF m 1 #[.val (.ref q7_0)] [(.ref q7_0)])) t
    exact k)
  obtain ⟨T2, X2, e2, st2⟩ := getF X0 hx hZ hown (host := "") (Or.inl (hw _ (List.mem_of_getElem? (i := 58) rfl))) Via.refl e0 F_q7_0_permissions (g := (mkF m 1 #[.val (.ref q7_0)] [(.ref q7_0)])) rfl rfl (hb hby d7_1)
  have P2 : own_Go p e below S0 (T2.setTop (mkF m 4 #[.val (.ref q7_0)] [(.int w7_q7_0_permissions)])) := fun t k => P1 t (st2 _ k)
  obtain ⟨fs, hr, hrun, hended, hW, hsame⟩ := X2.leave (v := some (.int w7_q7_0_permissions)) (fun h => by rw [Bd.returns] at h; cases h)
  refine ⟨_, _, own_from hE0 (P2 _ ?_), hrun, hended, _, _, rfl, ?_, ⟨_, rfl⟩, hW, hsame.mono (by decide) (by decide)⟩
  · show Steps p.tables e below (T2.setTop (mkF m 4 #[.val (.ref q7_0)] [(.int w7_q7_0_permissions)])) _
    exact retI X2 hx Bd.returns (hb hby d7_4) hr
  · show Q7 Z q7_0 w7_q7_0_permissions h0 n0 _ T2.heap _
    rw [e2]
    exact ⟨rfl, N0, rfl⟩
theorem own_byte (x : Int32) : ∃ i : Fin 256, (x &&& (255 : Int32)) = Int32.ofInt (i.1 : Int) := by
  have a := c_mask x 255 8 (by decide) (by decide)
  refine ⟨⟨(x.toInt % 256).toNat, by omega⟩, ?_⟩
  apply Int32.toInt_inj.mp
  rw [a, Int32.toInt_ofInt_of_le (by omega) (by omega)]
  show x.toInt % 256 = (((x.toInt % 256).toNat : Nat) : Int)
  omega
theorem own_law (x : Int32) : r6 (x &&& (255 : Int32)) = (if (((x &&& (255 : Int32)) / (2 : Int32)) % (2 : Int32)) = (1 : Int32) then (1 : Int32) else (0 : Int32)) := by
  obtain ⟨i, e⟩ := own_byte x
  rw [e]
  have h : ∀ i : Fin 256, r6 (Int32.ofInt (i.1 : Int)) = (if ((Int32.ofInt (i.1 : Int) / (2 : Int32)) % (2 : Int32)) = (1 : Int32) then (1 : Int32) else (0 : Int32)) := by decide +kernel
  exact h i
theorem pd_1 : parseMethodDescriptor "([BIIJJLcom/example/names_for_good/namesforgood/records/HandleValue$TtlType;JILjava/lang/String;IIIILjava/util/List;)V" = some ⟨[(.array .byte), .int, .int, .long, .long, (.object "com/example/names_for_good/namesforgood/records/HandleValue$TtlType"), .long, .int, (.object "java/lang/String"), .int, .int, .int, .int, (.object "java/util/List")], none⟩ := by decide +kernel
theorem pd_2 : parseMethodDescriptor "()Z" = some ⟨[], some .boolean⟩ := by decide +kernel
theorem pd_3 : parseMethodDescriptor "()I" = some ⟨[], some .int⟩ := by decide +kernel
theorem pn_0 : plainName "com/example/names_for_good/namesforgood/protocol/EncodedValueIsPubliclyReadablePinLaw" = true := by first | (simp [plainName, overriddenIn]; done) | decide +kernel
theorem ef_0 (m : MethodId) (i0 : Int32) (i1 : Int32) : entryFrame m #[(.int i0), (.int i1)] maxLocals = mkF m 0 #[.val (.int i0), .val (.int i1), .unset, .unset, .unset, .unset] [] := by first | (simp [entryFrame, mkF, argsToLocals, Value.category, maxLocals]; done) | rfl
def Q0 (Z : State) (i0 : Int32) (i1 : Int32) (z0_RELATIVE : Addr) (z0_ABSOLUTE : Addr) (z0_DEFAULTCAPACITY_EMPTY_ELEMENTDATA : Addr) (h0 : Heap) (n0 : Nat) (v : Option Value) (h : Heap) (L : List Loc) : Prop := v = some (.int 1) ∧ Fr n0 L
set_option maxRecDepth 65536 in
set_option maxHeartbeats 40000000 in
theorem rm0 (l : Launch) (Z : State) (a0 : Array Value) (hw : ∀ d ∈ tables_1, d.before a0 Z = true) (ws : List Jvm.Cond) (i0 : Int32) (i1 : Int32) (z0_RELATIVE : Addr) (z0_ABSOLUTE : Addr) (z0_DEFAULTCAPACITY_EMPTY_ELEMENTDATA : Addr) (h0 : Heap) (n0 : Nat) (Z0 : n0 ≤ h0.size) (S_RELATIVE : Sta Z h0 "com/example/names_for_good/namesforgood/records/HandleValue$TtlType" "RELATIVE" "Lcom/example/names_for_good/namesforgood/records/HandleValue$TtlType;" (.ref z0_RELATIVE)) (S_ABSOLUTE : Sta Z h0 "com/example/names_for_good/namesforgood/records/HandleValue$TtlType" "ABSOLUTE" "Lcom/example/names_for_good/namesforgood/records/HandleValue$TtlType;" (.ref z0_ABSOLUTE)) (S_DEFAULTCAPACITY_EMPTY_ELEMENTDATA : Sta Z h0 "java/util/ArrayList" "DEFAULTCAPACITY_EMPTY_ELEMENTDATA" "[Ljava/lang/Object;" (.ref z0_DEFAULTCAPACITY_EMPTY_ELEMENTDATA)) :
    MetFree l x (head1 (Jvm.Cond.code x code maxLocals ret :: ws) room_1) (fun a U => a = #[(.int i0), (.int i1)] ∧ Z.Warmed39 U.vm ∧ U.heap = h0) (fun _ _ _ _ _ => True) (fun _ U o U' => ∃ v L, o = .returned v ∧ Q0 Z i0 i1 z0_RELATIVE z0_ABSOLUTE z0_DEFAULTCAPACITY_EMPTY_ELEMENTDATA h0 n0 v U'.heap L ∧ ReturnedEndW U o U' L room_1.cells room_1.slots) := by
  refine MetFree.of_bodySF (plainFor_of_name pn_0) hisR ?_
  intro p e s m args below meth c s₁ Bd hml0 hP hK
  obtain ⟨rfl, hZ, hh⟩ := hP
  have hx := Bd.exec
  have hby := Bd.bytes
  have hml : c.maxLocals = 6 := hml0
  have hown : s.vm.findClass "com/example/names_for_good/namesforgood/protocol/EncodedValueIsPubliclyReadablePinLaw" = some m.cls := findClass_of_methodNamed Bd.named
  have hnm := (name_of_methodNamed Bd.named Bd.method).1
  have X0 : Stand p l e room_1 (s.setVm s.vm) m #[(.int i0), (.int i1)] below meth c s₁ [] 0 0 := Stand.of_body Bd
  have e0 : s₁.heap = h0 := by rw [← hh, Bd.state]; rfl
  have N0 := Fr.nil n0
  have hS0 : s.Since s.vm h0.size := (State.WarmedH.refl s).since _
  obtain ⟨S0, hE0⟩ : ∃ z, z = s₁.setTop (entryFrame m #[(.int i0), (.int i1)] maxLocals) := ⟨_, rfl⟩
  have P0 : own_Go p e below S0 (s₁.setTop (mkF m 0 #[.val (.int i0), .val (.int i1), .unset, .unset, .unset, .unset] [])) := fun t k => by rw [hE0]; exact castTop (ef_0 m i0 i1) k
  have P1 : own_Go p e below S0 (s₁.setTop (mkF m 9 #[.val (.int i0), .val (.int i1), .val (.int (i0 &&& (255 : Int32))), .unset, .unset, .unset] [(.int (i1 &&& (1 : Int32)))])) := fun t k => P0 t (by
    show Steps p.tables e below (s₁.setTop (mkF m 0 #[.val (.int i0), .val (.int i1), .unset, .unset, .unset, .unset] [])) t
    refine XS.iloadN X0.here hx rfl (hb hby at_0) rfl ?_
    refine XS.sipush X0.here hx rfl (hb hby at_1) ?_
    refine XS.iand X0.here hx rfl (hb hby at_4) rfl ?_
    refine XS.istoreN X0.here hx rfl (hb hby at_5) rfl (l' := #[.val (.int i0), .val (.int i1), .val (.int (i0 &&& (255 : Int32))), .unset, .unset, .unset]) rfl ?_
    refine XS.iloadN X0.here hx rfl (hb hby at_6) rfl ?_
    refine XS.iconst X0.here hx rfl (hb hby at_7) ?_
    show Steps p.tables e below (s₁.setTop (mkF m 8 #[.val (.int i0), .val (.int i1), .val (.int (i0 &&& (255 : Int32))), .unset, .unset, .unset] [(.int (1 : Int32)), (.int i1)])) t
    refine XS.iand X0.here hx rfl (hb hby at_8) rfl ?_
    show Steps p.tables e below (s₁.setTop (mkF m 9 #[.val (.int i0), .val (.int i1), .val (.int (i0 &&& (255 : Int32))), .unset, .unset, .unset] [(.int (i1 &&& (1 : Int32)))])) t
    exact k)
  obtain ⟨T8, lo8, v8_s0, X8, e8, N8, hv8_s0, P8⟩ : ∃ (T8 : State) (lo8 : List Loc) (v8_s0 : Addr), (Stand p l e room_1 (s.setVm s.vm) m #[(.int i0), (.int i1)] below meth c T8 lo8 0 0) ∧ (T8.heap = h0) ∧ (Fr n0 lo8) ∧ (v8_s0 = (if (i1 &&& (1 : Int32)) = (0 : Int32) then z0_RELATIVE else z0_ABSOLUTE)) ∧ (own_Go p e below S0 (T8.setTop (mkF m 21 #[.val (.int i0), .val (.int i1), .val (.int (i0 &&& (255 : Int32))), .unset, .unset, .unset] [(.ref v8_s0)]))) := by
    by_cases c2 : (i1 &&& (1 : Int32)) = (0 : Int32)
    · skip
      have P3 : own_Go p e below S0 (s₁.setTop (mkF m 18 #[.val (.int i0), .val (.int i1), .val (.int (i0 &&& (255 : Int32))), .unset, .unset, .unset] [])) := fun t k => P1 t (by
        show Steps p.tables e below (s₁.setTop (mkF m 9 #[.val (.int i0), .val (.int i1), .val (.int (i0 &&& (255 : Int32))), .unset, .unset, .unset] [(.int (i1 &&& (1 : Int32)))])) t
        refine XS.ifYes X0.here hx rfl (pc0 := 9) (pc' := 18) rfl (hb hby at_9) rfl ((if0 _ _).trans (teq c2).1) (by decide) (by decide) ?_
        show Steps p.tables e below (s₁.setTop (mkF m 18 #[.val (.int i0), .val (.int i1), .val (.int (i0 &&& (255 : Int32))), .unset, .unset, .unset] [])) t
        exact k)
      obtain ⟨T4, X4, e4, st4⟩ := getS2 X0 hx hZ hown (host := "") (Or.inl (hw _ (List.mem_of_getElem? (i := 82) rfl))) Via.refl e0 S_RELATIVE (g := (mkF m 18 #[.val (.int i0), .val (.int i1), .val (.int (i0 &&& (255 : Int32))), .unset, .unset, .unset] [])) rfl (hb hby at_18)
      have P4 : own_Go p e below S0 (T4.setTop (mkF m 21 #[.val (.int i0), .val (.int i1), .val (.int (i0 &&& (255 : Int32))), .unset, .unset, .unset] [(.ref z0_RELATIVE)])) := fun t k => P3 t (st4 _ k)
      exact ⟨T4, _, z0_RELATIVE, X4, e4, N0, (Eq.symm (if_pos c2)), P4⟩
    · skip
      have P5 : own_Go p e below S0 (s₁.setTop (mkF m 12 #[.val (.int i0), .val (.int i1), .val (.int (i0 &&& (255 : Int32))), .unset, .unset, .unset] [])) := fun t k => P1 t (by
        show Steps p.tables e below (s₁.setTop (mkF m 9 #[.val (.int i0), .val (.int i1), .val (.int (i0 &&& (255 : Int32))), .unset, .unset, .unset] [(.int (i1 &&& (1 : Int32)))])) t
        refine XS.ifNo X0.here hx rfl (hb hby at_9) rfl ((if0 _ _).trans (feq c2).1) ?_
        show Steps p.tables e below (s₁.setTop (mkF m 12 #[.val (.int i0), .val (.int i1), .val (.int (i0 &&& (255 : Int32))), .unset, .unset, .unset] [])) t
        exact k)
      obtain ⟨T6, X6, e6, st6⟩ := getS2 X0 hx hZ hown (host := "") (Or.inl (hw _ (List.mem_of_getElem? (i := 0) rfl))) Via.refl e0 S_ABSOLUTE (g := (mkF m 12 #[.val (.int i0), .val (.int i1), .val (.int (i0 &&& (255 : Int32))), .unset, .unset, .unset] [])) rfl (hb hby at_12)
      have P6 : own_Go p e below S0 (T6.setTop (mkF m 15 #[.val (.int i0), .val (.int i1), .val (.int (i0 &&& (255 : Int32))), .unset, .unset, .unset] [(.ref z0_ABSOLUTE)])) := fun t k => P5 t (st6 _ k)
      have P7 : own_Go p e below S0 (T6.setTop (mkF m 21 #[.val (.int i0), .val (.int i1), .val (.int (i0 &&& (255 : Int32))), .unset, .unset, .unset] [(.ref z0_ABSOLUTE)])) := fun t k => P6 t (by
        show Steps p.tables e below (T6.setTop (mkF m 15 #[.val (.int i0), .val (.int i1), .val (.int (i0 &&& (255 : Int32))), .unset, .unset, .unset] [(.ref z0_ABSOLUTE)])) t
        refine XS.goto X6.here hx rfl (pc0 := 15) (pc' := 21) rfl (hb hby at_15) (by decide) (by decide) ?_
        show Steps p.tables e below (T6.setTop (mkF m 21 #[.val (.int i0), .val (.int i1), .val (.int (i0 &&& (255 : Int32))), .unset, .unset, .unset] [(.ref z0_ABSOLUTE)])) t
        exact k)
      exact ⟨T6, _, z0_ABSOLUTE, X6, e6, N0, (Eq.symm (if_neg c2)), P7⟩
  have P9 : own_Go p e below S0 (T8.setTop (mkF m 22 #[.val (.int i0), .val (.int i1), .val (.int (i0 &&& (255 : Int32))), .val (.ref v8_s0), .unset, .unset] [])) := fun t k => P8 t (by
    show Steps p.tables e below (T8.setTop (mkF m 21 #[.val (.int i0), .val (.int i1), .val (.int (i0 &&& (255 : Int32))), .unset, .unset, .unset] [(.ref v8_s0)])) t
    refine XS.astoreN X8.here hx rfl (hb hby at_21) rfl rfl (l' := #[.val (.int i0), .val (.int i1), .val (.int (i0 &&& (255 : Int32))), .val (.ref v8_s0), .unset, .unset]) rfl ?_
    show Steps p.tables e below (T8.setTop (mkF m 22 #[.val (.int i0), .val (.int i1), .val (.int (i0 &&& (255 : Int32))), .val (.ref v8_s0), .unset, .unset] [])) t
    exact k)
  obtain ⟨T10, h10, X10, e10, E10, A10, D10, -, st10⟩ := newO X8 hx hZ hown (hw _ (List.mem_of_getElem? (i := 3) rfl)) (hw _ (List.mem_of_getElem? (i := 4) rfl)) (hw _ (List.mem_of_getElem? (i := 5) rfl)) e8 (g := (mkF m 22 #[.val (.int i0), .val (.int i1), .val (.int (i0 &&& (255 : Int32))), .val (.ref v8_s0), .unset, .unset] [])) rfl (hb hby at_22) (by decide) (by decide)
  obtain ⟨b10, g10⟩ : ∃ z, z = h0.size := ⟨_, rfl⟩
  rw [← g10] at A10 D10 st10
  have sz_b10 : h0.size ≤ b10 := Nat.le_of_eq g10.symm
  have g_b10 : n0 ≤ b10 := Nat.le_trans Z0 sz_b10
  have o_b10 : h0.size ≤ b10 := sz_b10
  have hk10 : h0.size ≤ h10.size := Nat.le_trans (Nat.le_refl _) E10.1
  have K10 : Keep h0 h10 [] := (Keep.refl h0 []).ext E10
  have F10_octets : Fld Z h10 b10 "com/example/names_for_good/namesforgood/protocol/EncodedValue" "octets" "[B" .null := D10 (Or.inr (hw _ (List.mem_of_getElem? (i := 45) rfl))) (ty := (.array .byte)) (by decide)
  have F10_from : Fld Z h10 b10 "com/example/names_for_good/namesforgood/protocol/EncodedValue" "from" "I" (.int (0 : Int32)) := D10 (Or.inr (hw _ (List.mem_of_getElem? (i := 47) rfl))) (ty := .int) (by decide)
  have F10_to : Fld Z h10 b10 "com/example/names_for_good/namesforgood/protocol/EncodedValue" "to" "I" (.int (0 : Int32)) := D10 (Or.inr (hw _ (List.mem_of_getElem? (i := 49) rfl))) (ty := .int) (by decide)
  have F10_index : Fld Z h10 b10 "com/example/names_for_good/namesforgood/protocol/EncodedValue" "index" "J" (.long (0 : Int64)) := D10 (Or.inr (hw _ (List.mem_of_getElem? (i := 51) rfl))) (ty := .long) (by decide)
  have F10_timestamp : Fld Z h10 b10 "com/example/names_for_good/namesforgood/protocol/EncodedValue" "timestamp" "J" (.long (0 : Int64)) := D10 (Or.inr (hw _ (List.mem_of_getElem? (i := 53) rfl))) (ty := .long) (by decide)
  have F10_ttlType : Fld Z h10 b10 "com/example/names_for_good/namesforgood/protocol/EncodedValue" "ttlType" "Lcom/example/names_for_good/namesforgood/records/HandleValue$TtlType;" .null := D10 (Or.inr (hw _ (List.mem_of_getElem? (i := 55) rfl))) (ty := (.object "com/example/names_for_good/namesforgood/records/HandleValue$TtlType")) (by decide)
  have F10_ttl : Fld Z h10 b10 "com/example/names_for_good/namesforgood/protocol/EncodedValue" "ttl" "J" (.long (0 : Int64)) := D10 (Or.inr (hw _ (List.mem_of_getElem? (i := 57) rfl))) (ty := .long) (by decide)
  have F10_permissions : Fld Z h10 b10 "com/example/names_for_good/namesforgood/protocol/EncodedValue" "permissions" "I" (.int (0 : Int32)) := D10 (Or.inr (hw _ (List.mem_of_getElem? (i := 59) rfl))) (ty := .int) (by decide)
  have F10_type : Fld Z h10 b10 "com/example/names_for_good/namesforgood/protocol/EncodedValue" "type" "Ljava/lang/String;" .null := D10 (Or.inr (hw _ (List.mem_of_getElem? (i := 61) rfl))) (ty := (.object "java/lang/String")) (by decide)
  have F10_typeFrom : Fld Z h10 b10 "com/example/names_for_good/namesforgood/protocol/EncodedValue" "typeFrom" "I" (.int (0 : Int32)) := D10 (Or.inr (hw _ (List.mem_of_getElem? (i := 63) rfl))) (ty := .int) (by decide)
  have F10_typeLength : Fld Z h10 b10 "com/example/names_for_good/namesforgood/protocol/EncodedValue" "typeLength" "I" (.int (0 : Int32)) := D10 (Or.inr (hw _ (List.mem_of_getElem? (i := 65) rfl))) (ty := .int) (by decide)
  have F10_dataFrom : Fld Z h10 b10 "com/example/names_for_good/namesforgood/protocol/EncodedValue" "dataFrom" "I" (.int (0 : Int32)) := D10 (Or.inr (hw _ (List.mem_of_getElem? (i := 67) rfl))) (ty := .int) (by decide)
  have F10_dataLength : Fld Z h10 b10 "com/example/names_for_good/namesforgood/protocol/EncodedValue" "dataLength" "I" (.int (0 : Int32)) := D10 (Or.inr (hw _ (List.mem_of_getElem? (i := 69) rfl))) (ty := .int) (by decide)
  have F10_references : Fld Z h10 b10 "com/example/names_for_good/namesforgood/protocol/EncodedValue" "references" "Ljava/util/List;" .null := D10 (Or.inr (hw _ (List.mem_of_getElem? (i := 71) rfl))) (ty := (.object "java/util/List")) (by decide)
  have P10 : own_Go p e below S0 (T10.setTop (mkF m 25 #[.val (.int i0), .val (.int i1), .val (.int (i0 &&& (255 : Int32))), .val (.ref v8_s0), .unset, .unset] [(.ref b10)])) := fun t k => P9 t (st10 _ k)
  have P11 : own_Go p e below S0 (T10.setTop (mkF m 27 #[.val (.int i0), .val (.int i1), .val (.int (i0 &&& (255 : Int32))), .val (.ref v8_s0), .unset, .unset] [(.int (0 : Int32)), (.ref b10), (.ref b10)])) := fun t k => P10 t (by
    show Steps p.tables e below (T10.setTop (mkF m 25 #[.val (.int i0), .val (.int i1), .val (.int (i0 &&& (255 : Int32))), .val (.ref v8_s0), .unset, .unset] [(.ref b10)])) t
    refine XS.dup X10.here hx rfl (hb hby at_25) rfl rfl ?_
    refine XS.iconst X10.here hx rfl (hb hby at_26) ?_
    show Steps p.tables e below (T10.setTop (mkF m 27 #[.val (.int i0), .val (.int i1), .val (.int (i0 &&& (255 : Int32))), .val (.ref v8_s0), .unset, .unset] [(.int (0 : Int32)), (.ref b10), (.ref b10)])) t
    exact k)
  obtain ⟨T12, h12, k12, X12, e12, E12, A12, st12⟩ := newP X10 hx hZ (hw _ (List.mem_of_getElem? (i := 6) rfl)) e10 (g := (mkF m 27 #[.val (.int i0), .val (.int i1), .val (.int (i0 &&& (255 : Int32))), .val (.ref v8_s0), .unset, .unset] [(.int (0 : Int32)), (.ref b10), (.ref b10)])) rfl (hb hby at_27) rfl (by decide) (cap := 0) (by decide) (by decide) (by decide) (by decide)
  obtain ⟨b12, g12⟩ : ∃ z, z = h10.size := ⟨_, rfl⟩
  rw [← g12] at A12 st12
  have sz_b12 : h10.size ≤ b12 := Nat.le_of_eq g12.symm
  have ne_b10_b12 : b10 ≠ b12 := Nat.ne_of_lt (Nat.lt_of_lt_of_le A10.lt sz_b12)
  have g_b12 : n0 ≤ b12 := Nat.le_trans (Nat.le_trans Z0 K10.1) sz_b12
  have o_b12 : h0.size ≤ b12 := Nat.le_trans K10.1 sz_b12
  have hk12 : h0.size ≤ h12.size := Nat.le_trans hk10 E12.1
  have K12 : Keep h0 h12 [] := K10.ext E12
  have V12 : Arv Z h12 b12 k12 .byte (0 : Int32) [] (.int (0 : Int32)) := (Arv.new A12 (by decide)).pad (pad_rep [] (.int (0 : Int32)) 0)
  have P12 : own_Go p e below S0 (T12.setTop (mkF m 29 #[.val (.int i0), .val (.int i1), .val (.int (i0 &&& (255 : Int32))), .val (.ref v8_s0), .unset, .unset] [(.ref b12), (.ref b10), (.ref b10)])) := fun t k => P11 t (st12 _ k)
  have P13 : own_Go p e below S0 (T12.setTop (mkF m 36 #[.val (.int i0), .val (.int i1), .val (.int (i0 &&& (255 : Int32))), .val (.ref v8_s0), .unset, .unset] [(.int (i0 &&& (255 : Int32))), (.long (0 : Int64)), (.ref v8_s0), (.long (0 : Int64)), (.long (0 : Int64)), (.int (0 : Int32)), (.int (0 : Int32)), (.ref b12), (.ref b10), (.ref b10)])) := fun t k => P12 t (by
    show Steps p.tables e below (T12.setTop (mkF m 29 #[.val (.int i0), .val (.int i1), .val (.int (i0 &&& (255 : Int32))), .val (.ref v8_s0), .unset, .unset] [(.ref b12), (.ref b10), (.ref b10)])) t
    refine XS.iconst X12.here hx rfl (hb hby at_29) ?_
    refine XS.iconst X12.here hx rfl (hb hby at_30) ?_
    refine XS.lconst X12.here hx rfl (hb hby at_31) ?_
    refine XS.lconst X12.here hx rfl (hb hby at_32) ?_
    refine XS.aloadN X12.here hx rfl (hb hby at_33) rfl rfl ?_
    refine XS.lconst X12.here hx rfl (hb hby at_34) ?_
    show Steps p.tables e below (T12.setTop (mkF m 35 #[.val (.int i0), .val (.int i1), .val (.int (i0 &&& (255 : Int32))), .val (.ref v8_s0), .unset, .unset] [(.long (0 : Int64)), (.ref v8_s0), (.long (0 : Int64)), (.long (0 : Int64)), (.int (0 : Int32)), (.int (0 : Int32)), (.ref b12), (.ref b10), (.ref b10)])) t
    refine XS.iloadN X12.here hx rfl (hb hby at_35) rfl ?_
    show Steps p.tables e below (T12.setTop (mkF m 36 #[.val (.int i0), .val (.int i1), .val (.int (i0 &&& (255 : Int32))), .val (.ref v8_s0), .unset, .unset] [(.int (i0 &&& (255 : Int32))), (.long (0 : Int64)), (.ref v8_s0), (.long (0 : Int64)), (.long (0 : Int64)), (.int (0 : Int32)), (.int (0 : Int32)), (.ref b12), (.ref b10), (.ref b10)])) t
    exact k)
  obtain ⟨a14, T14, h14, kk14, X14, e14, E14, hS14, hk14q, hZ14, hown14, st14⟩ := ldcS X12 hx hZ hown (hw _ (List.mem_of_getElem? (i := 7) rfl)) (own_wS hw) e12 hS0 hk12 (g := (mkF m 36 #[.val (.int i0), .val (.int i1), .val (.int (i0 &&& (255 : Int32))), .val (.ref v8_s0), .unset, .unset] [(.int (i0 &&& (255 : Int32))), (.long (0 : Int64)), (.ref v8_s0), (.long (0 : Int64)), (.long (0 : Int64)), (.int (0 : Int32)), (.int (0 : Int32)), (.ref b12), (.ref b10), (.ref b10)])) rfl (hb hby at_36) (n := 12) (by decide) (by decide) (by decide) (by decide)
  have K14 : Keep h0 h14 [] := K12.ext E14
  have P14 : own_Go p e below S0 (T14.setTop (mkF m 38 #[.val (.int i0), .val (.int i1), .val (.int (i0 &&& (255 : Int32))), .val (.ref v8_s0), .unset, .unset] [(.ref a14), (.int (i0 &&& (255 : Int32))), (.long (0 : Int64)), (.ref v8_s0), (.long (0 : Int64)), (.long (0 : Int64)), (.int (0 : Int32)), (.int (0 : Int32)), (.ref b12), (.ref b10), (.ref b10)])) := fun t k => P13 t (st14 _ k)
  have F15 : Exa Z h12 b10 "com/example/names_for_good/namesforgood/protocol/EncodedValue" := A10.ext E12
  have F16 : Exa Z h14 b10 "com/example/names_for_good/namesforgood/protocol/EncodedValue" := F15.ext E14
  have F17 : Arv Z h14 b12 k12 .byte (0 : Int32) [] (.int (0 : Int32)) := V12.ext E14
  have P18 : own_Go p e below S0 (T14.setTop (mkF m 42 #[.val (.int i0), .val (.int i1), .val (.int (i0 &&& (255 : Int32))), .val (.ref v8_s0), .unset, .unset] [(.int (0 : Int32)), (.int (0 : Int32)), (.int (0 : Int32)), (.int (0 : Int32)), (.ref a14), (.int (i0 &&& (255 : Int32))), (.long (0 : Int64)), (.ref v8_s0), (.long (0 : Int64)), (.long (0 : Int64)), (.int (0 : Int32)), (.int (0 : Int32)), (.ref b12), (.ref b10), (.ref b10)])) := fun t k => P14 t (by
    show Steps p.tables e below (T14.setTop (mkF m 38 #[.val (.int i0), .val (.int i1), .val (.int (i0 &&& (255 : Int32))), .val (.ref v8_s0), .unset, .unset] [(.ref a14), (.int (i0 &&& (255 : Int32))), (.long (0 : Int64)), (.ref v8_s0), (.long (0 : Int64)), (.long (0 : Int64)), (.int (0 : Int32)), (.int (0 : Int32)), (.ref b12), (.ref b10), (.ref b10)])) t
    refine XS.iconst X14.here hx rfl (hb hby at_38) ?_
    refine XS.iconst X14.here hx rfl (hb hby at_39) ?_
    refine XS.iconst X14.here hx rfl (hb hby at_40) ?_
    refine XS.iconst X14.here hx rfl (hb hby at_41) ?_
    show Steps p.tables e below (T14.setTop (mkF m 42 #[.val (.int i0), .val (.int i1), .val (.int (i0 &&& (255 : Int32))), .val (.ref v8_s0), .unset, .unset] [(.int (0 : Int32)), (.int (0 : Int32)), (.int (0 : Int32)), (.int (0 : Int32)), (.ref a14), (.int (i0 &&& (255 : Int32))), (.long (0 : Int64)), (.ref v8_s0), (.long (0 : Int64)), (.long (0 : Int64)), (.int (0 : Int32)), (.int (0 : Int32)), (.ref b12), (.ref b10), (.ref b10)])) t
    exact k)
  obtain ⟨T19, h19, X19, e19, E19, A19, D19, -, st19⟩ := newO X14 hx hZ14 hown14 (hw _ (List.mem_of_getElem? (i := 14) rfl)) (hw _ (List.mem_of_getElem? (i := 15) rfl)) (hw _ (List.mem_of_getElem? (i := 16) rfl)) e14 (g := (mkF m 42 #[.val (.int i0), .val (.int i1), .val (.int (i0 &&& (255 : Int32))), .val (.ref v8_s0), .unset, .unset] [(.int (0 : Int32)), (.int (0 : Int32)), (.int (0 : Int32)), (.int (0 : Int32)), (.ref a14), (.int (i0 &&& (255 : Int32))), (.long (0 : Int64)), (.ref v8_s0), (.long (0 : Int64)), (.long (0 : Int64)), (.int (0 : Int32)), (.int (0 : Int32)), (.ref b12), (.ref b10), (.ref b10)])) rfl (hb hby at_42) (by decide) (by decide)
  obtain ⟨b19, g19⟩ : ∃ z, z = h14.size := ⟨_, rfl⟩
  rw [← g19] at A19 D19 st19
  have sz_b19 : h14.size ≤ b19 := Nat.le_of_eq g19.symm
  have ne_b10_b19 : b10 ≠ b19 := Nat.ne_of_lt (Nat.lt_of_lt_of_le F16.lt sz_b19)
  have ne_b12_b19 : b12 ≠ b19 := Nat.ne_of_lt (Nat.lt_of_lt_of_le F17.lt sz_b19)
  have g_b19 : n0 ≤ b19 := Nat.le_trans (Nat.le_trans Z0 K14.1) sz_b19
  have o_b19 : h0.size ≤ b19 := Nat.le_trans K14.1 sz_b19
  have hk19 : kk14 ≤ h19.size := Nat.le_trans hk14q E19.1
  have K19 : Keep h0 h19 [] := K14.ext E19
  have F19_modCount : Fld Z h19 b19 "java/util/AbstractList" "modCount" "I" (.int (0 : Int32)) := D19 (Or.inl (hw _ (List.mem_of_getElem? (i := 36) rfl))) (ty := .int) (by decide)
  have F19_elementData : Fld Z h19 b19 "java/util/ArrayList" "elementData" "[Ljava/lang/Object;" .null := D19 (Or.inl (hw _ (List.mem_of_getElem? (i := 39) rfl))) (ty := (.array (.object "java/lang/Object"))) (by decide)
  have P19 : own_Go p e below S0 (T19.setTop (mkF m 45 #[.val (.int i0), .val (.int i1), .val (.int (i0 &&& (255 : Int32))), .val (.ref v8_s0), .unset, .unset] [(.ref b19), (.int (0 : Int32)), (.int (0 : Int32)), (.int (0 : Int32)), (.int (0 : Int32)), (.ref a14), (.int (i0 &&& (255 : Int32))), (.long (0 : Int64)), (.ref v8_s0), (.long (0 : Int64)), (.long (0 : Int64)), (.int (0 : Int32)), (.int (0 : Int32)), (.ref b12), (.ref b10), (.ref b10)])) := fun t k => P18 t (st19 _ k)
  have F20 : Sta Z h10 "java/util/ArrayList" "DEFAULTCAPACITY_EMPTY_ELEMENTDATA" "[Ljava/lang/Object;" (.ref z0_DEFAULTCAPACITY_EMPTY_ELEMENTDATA) := S_DEFAULTCAPACITY_EMPTY_ELEMENTDATA.ext E10
  have F21 : Sta Z h12 "java/util/ArrayList" "DEFAULTCAPACITY_EMPTY_ELEMENTDATA" "[Ljava/lang/Object;" (.ref z0_DEFAULTCAPACITY_EMPTY_ELEMENTDATA) := F20.ext E12
  have F22 : Sta Z h14 "java/util/ArrayList" "DEFAULTCAPACITY_EMPTY_ELEMENTDATA" "[Ljava/lang/Object;" (.ref z0_DEFAULTCAPACITY_EMPTY_ELEMENTDATA) := F21.ext E14
  have F23 : Sta Z h19 "java/util/ArrayList" "DEFAULTCAPACITY_EMPTY_ELEMENTDATA" "[Ljava/lang/Object;" (.ref z0_DEFAULTCAPACITY_EMPTY_ELEMENTDATA) := F22.ext E19
  have P24 : own_Go p e below S0 (T19.setTop (mkF m 46 #[.val (.int i0), .val (.int i1), .val (.int (i0 &&& (255 : Int32))), .val (.ref v8_s0), .unset, .unset] [(.ref b19), (.ref b19), (.int (0 : Int32)), (.int (0 : Int32)), (.int (0 : Int32)), (.int (0 : Int32)), (.ref a14), (.int (i0 &&& (255 : Int32))), (.long (0 : Int64)), (.ref v8_s0), (.long (0 : Int64)), (.long (0 : Int64)), (.int (0 : Int32)), (.int (0 : Int32)), (.ref b12), (.ref b10), (.ref b10)])) := fun t k => P19 t (by
    show Steps p.tables e below (T19.setTop (mkF m 45 #[.val (.int i0), .val (.int i1), .val (.int (i0 &&& (255 : Int32))), .val (.ref v8_s0), .unset, .unset] [(.ref b19), (.int (0 : Int32)), (.int (0 : Int32)), (.int (0 : Int32)), (.int (0 : Int32)), (.ref a14), (.int (i0 &&& (255 : Int32))), (.long (0 : Int64)), (.ref v8_s0), (.long (0 : Int64)), (.long (0 : Int64)), (.int (0 : Int32)), (.int (0 : Int32)), (.ref b12), (.ref b10), (.ref b10)])) t
    refine XS.dup X19.here hx rfl (hb hby at_45) rfl rfl ?_
    show Steps p.tables e below (T19.setTop (mkF m 46 #[.val (.int i0), .val (.int i1), .val (.int (i0 &&& (255 : Int32))), .val (.ref v8_s0), .unset, .unset] [(.ref b19), (.ref b19), (.int (0 : Int32)), (.int (0 : Int32)), (.int (0 : Int32)), (.int (0 : Int32)), (.ref a14), (.int (i0 &&& (255 : Int32))), (.long (0 : Int64)), (.ref v8_s0), (.long (0 : Int64)), (.long (0 : Int64)), (.int (0 : Int32)), (.int (0 : Int32)), (.ref b12), (.ref b10), (.ref b10)])) t
    exact k)
  obtain ⟨_, _, ⟨T25, L25, k25, n25⟩, -, X25, ⟨Lc25, hQ25, l25, y25, z25⟩, st25⟩ := X19.specialBack hx (y := (⟨"java/util/ArrayList", "<init>", "()V"⟩ : MethodName)) rfl hown14 (mvT hZ14 (hw _ (List.mem_of_getElem? (i := 17) rfl))) (mvT hZ14 (hw _ (List.mem_of_getElem? (i := 18) rfl))) (mvT hZ14 (hw _ (List.mem_of_getElem? (i := 19) rfl))) (by decide) (backOf (W := 19) (rm1 l Z a0 hw [] b19 (.int (0 : Int32)) z0_DEFAULTCAPACITY_EMPTY_ELEMENTDATA h19 n0 (Nat.le_trans Z0 K19.1) F19_elementData A19 F19_modCount g_b19 F23) hZ14 (hw _ (List.mem_of_getElem? (i := 19) rfl)) (hw _ (List.mem_of_getElem? (i := 16) rfl)) (by decide) (by decide)) (g := (mkF m 46 #[.val (.int i0), .val (.int i1), .val (.int (i0 &&& (255 : Int32))), .val (.ref v8_s0), .unset, .unset] [(.ref b19), (.ref b19), (.int (0 : Int32)), (.int (0 : Int32)), (.int (0 : Int32)), (.int (0 : Int32)), (.ref a14), (.int (i0 &&& (255 : Int32))), (.long (0 : Int64)), (.ref v8_s0), (.long (0 : Int64)), (.long (0 : Int64)), (.int (0 : Int32)), (.int (0 : Int32)), (.ref b12), (.ref b10), (.ref b10)])) rfl (by rw [hml]; rfl) (Steps.refl _) (a := b19) (argsL := []) (rest := [(.ref b19), (.int (0 : Int32)), (.int (0 : Int32)), (.int (0 : Int32)), (.int (0 : Int32)), (.ref a14), (.int (i0 &&& (255 : Int32))), (.long (0 : Int64)), (.ref v8_s0), (.long (0 : Int64)), (.long (0 : Int64)), (.int (0 : Int32)), (.int (0 : Int32)), (.ref b12), (.ref b10), (.ref b10)]) (lenOf pd_0 rfl) rfl (by show 2 * 0 + _ ≤ _; exact Nat.le_of_eq rfl) (hb hby at_46) (fun _ _ => ⟨rfl, e19, (by decide : 5 + 0 ≤ _), (by decide : 33 + 0 ≤ _)⟩)
  dsimp only [Pt.U, Pt.locs, Pt.cells, Pt.slots] at X25 l25 y25 z25 st25 hQ25
  subst l25 y25 z25
  obtain ⟨rfl, N25q, Kc25, F25_0, F25_1⟩ := hQ25
  have N25 := Fr.app N8 N25q
  have hk25 : kk14 ≤ T25.heap.size := Nat.le_trans hk19 Kc25.1
  have K25 : Keep h0 T25.heap [] := Keep.trans K19 Kc25 (allS (Or.inr o_b19) all0)
  have P25 : own_Go p e below S0 (T25.setTop (mkF m 49 #[.val (.int i0), .val (.int i1), .val (.int (i0 &&& (255 : Int32))), .val (.ref v8_s0), .unset, .unset] [(.ref b19), (.int (0 : Int32)), (.int (0 : Int32)), (.int (0 : Int32)), (.int (0 : Int32)), (.ref a14), (.int (i0 &&& (255 : Int32))), (.long (0 : Int64)), (.ref v8_s0), (.long (0 : Int64)), (.long (0 : Int64)), (.int (0 : Int32)), (.int (0 : Int32)), (.ref b12), (.ref b10), (.ref b10)])) := fun t k => P24 t (st25.trans k)
  have F26 : Exa Z h19 b10 "com/example/names_for_good/namesforgood/protocol/EncodedValue" := F16.ext E19
  have F27 : Exa Z T25.heap b10 "com/example/names_for_good/namesforgood/protocol/EncodedValue" := F26.keep Kc25
  have F28 : Fld Z h12 b10 "com/example/names_for_good/namesforgood/protocol/EncodedValue" "octets" "[B" .null := F10_octets.ext E12
  have F29 : Fld Z h14 b10 "com/example/names_for_good/namesforgood/protocol/EncodedValue" "octets" "[B" .null := F28.ext E14
  have F30 : Fld Z h19 b10 "com/example/names_for_good/namesforgood/protocol/EncodedValue" "octets" "[B" .null := F29.ext E19
  have F31 : Fld Z T25.heap b10 "com/example/names_for_good/namesforgood/protocol/EncodedValue" "octets" "[B" .null := F30.keep Kc25 (ninS ne_b10_b19 nin0)
  have F32 : Fld Z h12 b10 "com/example/names_for_good/namesforgood/protocol/EncodedValue" "from" "I" (.int (0 : Int32)) := F10_from.ext E12
  have F33 : Fld Z h14 b10 "com/example/names_for_good/namesforgood/protocol/EncodedValue" "from" "I" (.int (0 : Int32)) := F32.ext E14
  have F34 : Fld Z h19 b10 "com/example/names_for_good/namesforgood/protocol/EncodedValue" "from" "I" (.int (0 : Int32)) := F33.ext E19
  have F35 : Fld Z T25.heap b10 "com/example/names_for_good/namesforgood/protocol/EncodedValue" "from" "I" (.int (0 : Int32)) := F34.keep Kc25 (ninS ne_b10_b19 nin0)
  have F36 : Fld Z h12 b10 "com/example/names_for_good/namesforgood/protocol/EncodedValue" "to" "I" (.int (0 : Int32)) := F10_to.ext E12
  have F37 : Fld Z h14 b10 "com/example/names_for_good/namesforgood/protocol/EncodedValue" "to" "I" (.int (0 : Int32)) := F36.ext E14
  have F38 : Fld Z h19 b10 "com/example/names_for_good/namesforgood/protocol/EncodedValue" "to" "I" (.int (0 : Int32)) := F37.ext E19
  have F39 : Fld Z T25.heap b10 "com/example/names_for_good/namesforgood/protocol/EncodedValue" "to" "I" (.int (0 : Int32)) := F38.keep Kc25 (ninS ne_b10_b19 nin0)
  have F40 : Fld Z h12 b10 "com/example/names_for_good/namesforgood/protocol/EncodedValue" "index" "J" (.long (0 : Int64)) := F10_index.ext E12
  have F41 : Fld Z h14 b10 "com/example/names_for_good/namesforgood/protocol/EncodedValue" "index" "J" (.long (0 : Int64)) := F40.ext E14
  have F42 : Fld Z h19 b10 "com/example/names_for_good/namesforgood/protocol/EncodedValue" "index" "J" (.long (0 : Int64)) := F41.ext E19
  have F43 : Fld Z T25.heap b10 "com/example/names_for_good/namesforgood/protocol/EncodedValue" "index" "J" (.long (0 : Int64)) := F42.keep Kc25 (ninS ne_b10_b19 nin0)
  have F44 : Fld Z h12 b10 "com/example/names_for_good/namesforgood/protocol/EncodedValue" "timestamp" "J" (.long (0 : Int64)) := F10_timestamp.ext E12
  have F45 : Fld Z h14 b10 "com/example/names_for_good/namesforgood/protocol/EncodedValue" "timestamp" "J" (.long (0 : Int64)) := F44.ext E14
  have F46 : Fld Z h19 b10 "com/example/names_for_good/namesforgood/protocol/EncodedValue" "timestamp" "J" (.long (0 : Int64)) := F45.ext E19
  have F47 : Fld Z T25.heap b10 "com/example/names_for_good/namesforgood/protocol/EncodedValue" "timestamp" "J" (.long (0 : Int64)) := F46.keep Kc25 (ninS ne_b10_b19 nin0)
  have F48 : Fld Z h12 b10 "com/example/names_for_good/namesforgood/protocol/EncodedValue" "ttlType" "Lcom/example/names_for_good/namesforgood/records/HandleValue$TtlType;" .null := F10_ttlType.ext E12
  have F49 : Fld Z h14 b10 "com/example/names_for_good/namesforgood/protocol/EncodedValue" "ttlType" "Lcom/example/names_for_good/namesforgood/records/HandleValue$TtlType;" .null := F48.ext E14
  have F50 : Fld Z h19 b10 "com/example/names_for_good/namesforgood/protocol/EncodedValue" "ttlType" "Lcom/example/names_for_good/namesforgood/records/HandleValue$TtlType;" .null := F49.ext E19
  have F51 : Fld Z T25.heap b10 "com/example/names_for_good/namesforgood/protocol/EncodedValue" "ttlType" "Lcom/example/names_for_good/namesforgood/records/HandleValue$TtlType;" .null := F50.keep Kc25 (ninS ne_b10_b19 nin0)
  have F52 : Fld Z h12 b10 "com/example/names_for_good/namesforgood/protocol/EncodedValue" "ttl" "J" (.long (0 : Int64)) := F10_ttl.ext E12
  have F53 : Fld Z h14 b10 "com/example/names_for_good/namesforgood/protocol/EncodedValue" "ttl" "J" (.long (0 : Int64)) := F52.ext E14
  have F54 : Fld Z h19 b10 "com/example/names_for_good/namesforgood/protocol/EncodedValue" "ttl" "J" (.long (0 : Int64)) := F53.ext E19
  have F55 : Fld Z T25.heap b10 "com/example/names_for_good/namesforgood/protocol/EncodedValue" "ttl" "J" (.long (0 : Int64)) := F54.keep Kc25 (ninS ne_b10_b19 nin0)
  have F56 : Fld Z h12 b10 "com/example/names_for_good/namesforgood/protocol/EncodedValue" "permissions" "I" (.int (0 : Int32)) := F10_permissions.ext E12
  have F57 : Fld Z h14 b10 "com/example/names_for_good/namesforgood/protocol/EncodedValue" "permissions" "I" (.int (0 : Int32)) := F56.ext E14
  have F58 : Fld Z h19 b10 "com/example/names_for_good/namesforgood/protocol/EncodedValue" "permissions" "I" (.int (0 : Int32)) := F57.ext E19
  have F59 : Fld Z T25.heap b10 "com/example/names_for_good/namesforgood/protocol/EncodedValue" "permissions" "I" (.int (0 : Int32)) := F58.keep Kc25 (ninS ne_b10_b19 nin0)
  have F60 : Fld Z h12 b10 "com/example/names_for_good/namesforgood/protocol/EncodedValue" "type" "Ljava/lang/String;" .null := F10_type.ext E12
  have F61 : Fld Z h14 b10 "com/example/names_for_good/namesforgood/protocol/EncodedValue" "type" "Ljava/lang/String;" .null := F60.ext E14
  have F62 : Fld Z h19 b10 "com/example/names_for_good/namesforgood/protocol/EncodedValue" "type" "Ljava/lang/String;" .null := F61.ext E19
  have F63 : Fld Z T25.heap b10 "com/example/names_for_good/namesforgood/protocol/EncodedValue" "type" "Ljava/lang/String;" .null := F62.keep Kc25 (ninS ne_b10_b19 nin0)
  have F64 : Fld Z h12 b10 "com/example/names_for_good/namesforgood/protocol/EncodedValue" "typeFrom" "I" (.int (0 : Int32)) := F10_typeFrom.ext E12
  have F65 : Fld Z h14 b10 "com/example/names_for_good/namesforgood/protocol/EncodedValue" "typeFrom" "I" (.int (0 : Int32)) := F64.ext E14
  have F66 : Fld Z h19 b10 "com/example/names_for_good/namesforgood/protocol/EncodedValue" "typeFrom" "I" (.int (0 : Int32)) := F65.ext E19
  have F67 : Fld Z T25.heap b10 "com/example/names_for_good/namesforgood/protocol/EncodedValue" "typeFrom" "I" (.int (0 : Int32)) := F66.keep Kc25 (ninS ne_b10_b19 nin0)
  have F68 : Fld Z h12 b10 "com/example/names_for_good/namesforgood/protocol/EncodedValue" "typeLength" "I" (.int (0 : Int32)) := F10_typeLength.ext E12
  have F69 : Fld Z h14 b10 "com/example/names_for_good/namesforgood/protocol/EncodedValue" "typeLength" "I" (.int (0 : Int32)) := F68.ext E14
  have F70 : Fld Z h19 b10 "com/example/names_for_good/namesforgood/protocol/EncodedValue" "typeLength" "I" (.int (0 : Int32)) := F69.ext E19
  have F71 : Fld Z T25.heap b10 "com/example/names_for_good/namesforgood/protocol/EncodedValue" "typeLength" "I" (.int (0 : Int32)) := F70.keep Kc25 (ninS ne_b10_b19 nin0)
  have F72 : Fld Z h12 b10 "com/example/names_for_good/namesforgood/protocol/EncodedValue" "dataFrom" "I" (.int (0 : Int32)) := F10_dataFrom.ext E12
  have F73 : Fld Z h14 b10 "com/example/names_for_good/namesforgood/protocol/EncodedValue" "dataFrom" "I" (.int (0 : Int32)) := F72.ext E14
  have F74 : Fld Z h19 b10 "com/example/names_for_good/namesforgood/protocol/EncodedValue" "dataFrom" "I" (.int (0 : Int32)) := F73.ext E19
  have F75 : Fld Z T25.heap b10 "com/example/names_for_good/namesforgood/protocol/EncodedValue" "dataFrom" "I" (.int (0 : Int32)) := F74.keep Kc25 (ninS ne_b10_b19 nin0)
  have F76 : Fld Z h12 b10 "com/example/names_for_good/namesforgood/protocol/EncodedValue" "dataLength" "I" (.int (0 : Int32)) := F10_dataLength.ext E12
  have F77 : Fld Z h14 b10 "com/example/names_for_good/namesforgood/protocol/EncodedValue" "dataLength" "I" (.int (0 : Int32)) := F76.ext E14
  have F78 : Fld Z h19 b10 "com/example/names_for_good/namesforgood/protocol/EncodedValue" "dataLength" "I" (.int (0 : Int32)) := F77.ext E19
  have F79 : Fld Z T25.heap b10 "com/example/names_for_good/namesforgood/protocol/EncodedValue" "dataLength" "I" (.int (0 : Int32)) := F78.keep Kc25 (ninS ne_b10_b19 nin0)
  have F80 : Fld Z h12 b10 "com/example/names_for_good/namesforgood/protocol/EncodedValue" "references" "Ljava/util/List;" .null := F10_references.ext E12
  have F81 : Fld Z h14 b10 "com/example/names_for_good/namesforgood/protocol/EncodedValue" "references" "Ljava/util/List;" .null := F80.ext E14
  have F82 : Fld Z h19 b10 "com/example/names_for_good/namesforgood/protocol/EncodedValue" "references" "Ljava/util/List;" .null := F81.ext E19
  have F83 : Fld Z T25.heap b10 "com/example/names_for_good/namesforgood/protocol/EncodedValue" "references" "Ljava/util/List;" .null := F82.keep Kc25 (ninS ne_b10_b19 nin0)
  obtain ⟨_, _, ⟨T84, L84, k84, n84⟩, -, X84, ⟨Lc84, hQ84, l84, y84, z84⟩, st84⟩ := X25.specialBack hx (y := (⟨"com/example/names_for_good/namesforgood/protocol/EncodedValue", "<init>", "([BIIJJLcom/example/names_for_good/namesforgood/records/HandleValue$TtlType;JILjava/lang/String;IIIILjava/util/List;)V"⟩ : MethodName)) rfl hown14 (mvT hZ14 (hw _ (List.mem_of_getElem? (i := 40) rfl))) (mvT hZ14 (hw _ (List.mem_of_getElem? (i := 41) rfl))) (mvT hZ14 (hw _ (List.mem_of_getElem? (i := 42) rfl))) (by decide) (backOf (W := 1) (rm5 l Z a0 hw [] b10 b12 (0 : Int32) (0 : Int32) (0 : Int64) (0 : Int64) v8_s0 (0 : Int64) (i0 &&& (255 : Int32)) a14 (0 : Int32) (0 : Int32) (0 : Int32) (0 : Int32) b19 .null (.int (0 : Int32)) (.int (0 : Int32)) (.long (0 : Int64)) (.long (0 : Int64)) .null (.long (0 : Int64)) (.int (0 : Int32)) .null (.int (0 : Int32)) (.int (0 : Int32)) (.int (0 : Int32)) (.int (0 : Int32)) .null T25.heap n0 (Nat.le_trans Z0 K25.1) F27 F31 g_b10 F35 F39 F43 F47 F51 F55 F59 F63 F67 F71 F75 F79 F83) hZ14 (hw _ (List.mem_of_getElem? (i := 42) rfl)) (hw _ (List.mem_of_getElem? (i := 5) rfl)) (by decide) (by decide)) (g := (mkF m 49 #[.val (.int i0), .val (.int i1), .val (.int (i0 &&& (255 : Int32))), .val (.ref v8_s0), .unset, .unset] [(.ref b19), (.int (0 : Int32)), (.int (0 : Int32)), (.int (0 : Int32)), (.int (0 : Int32)), (.ref a14), (.int (i0 &&& (255 : Int32))), (.long (0 : Int64)), (.ref v8_s0), (.long (0 : Int64)), (.long (0 : Int64)), (.int (0 : Int32)), (.int (0 : Int32)), (.ref b12), (.ref b10), (.ref b10)])) rfl (by rw [hml]; rfl) (Steps.refl _) (a := b10) (argsL := [(.ref b12), (.int (0 : Int32)), (.int (0 : Int32)), (.long (0 : Int64)), (.long (0 : Int64)), (.ref v8_s0), (.long (0 : Int64)), (.int (i0 &&& (255 : Int32))), (.ref a14), (.int (0 : Int32)), (.int (0 : Int32)), (.int (0 : Int32)), (.int (0 : Int32)), (.ref b19)]) (rest := [(.ref b10)]) (lenOf pd_1 rfl) rfl (by show 2 * 0 + _ ≤ _; exact Nat.le_of_eq rfl) (hb hby at_49) (fun _ _ => ⟨rfl, rfl, (by decide : 5 + 0 ≤ _), (by decide : 33 + 0 ≤ _)⟩)
  dsimp only [Pt.U, Pt.locs, Pt.cells, Pt.slots] at X84 l84 y84 z84 st84 hQ84
  subst l84 y84 z84
  obtain ⟨rfl, N84q, Kc84, F84_0, F84_1, F84_2, F84_3, F84_4, F84_5, F84_6, F84_7, F84_8, F84_9, F84_10, F84_11, F84_12, F84_13⟩ := hQ84
  have N84 := Fr.app N25 N84q
  have hk84 : kk14 ≤ T84.heap.size := Nat.le_trans hk25 Kc84.1
  have K84 : Keep h0 T84.heap [] := Keep.trans K25 Kc84 (allS (Or.inr o_b10) all0)
  have P84 : own_Go p e below S0 (T84.setTop (mkF m 52 #[.val (.int i0), .val (.int i1), .val (.int (i0 &&& (255 : Int32))), .val (.ref v8_s0), .unset, .unset] [(.ref b10)])) := fun t k => P25 t (st84.trans k)
  have P85 : own_Go p e below S0 (T84.setTop (mkF m 60 #[.val (.int i0), .val (.int i1), .val (.int (i0 &&& (255 : Int32))), .val (.ref v8_s0), .val (.ref b10), .unset] [(.int (1 : Int32)), (.int (((i0 &&& (255 : Int32)) / (2 : Int32)) % (2 : Int32)))])) := fun t k => P84 t (by
    show Steps p.tables e below (T84.setTop (mkF m 52 #[.val (.int i0), .val (.int i1), .val (.int (i0 &&& (255 : Int32))), .val (.ref v8_s0), .unset, .unset] [(.ref b10)])) t
    refine XS.astore X84.here hx rfl (hb hby at_52) rfl rfl (l' := #[.val (.int i0), .val (.int i1), .val (.int (i0 &&& (255 : Int32))), .val (.ref v8_s0), .val (.ref b10), .unset]) rfl ?_
    refine XS.iloadN X84.here hx rfl (hb hby at_54) rfl ?_
    refine XS.iconst X84.here hx rfl (hb hby at_55) ?_
    refine XS.idiv X84.here hx rfl (hb hby at_56) rfl (by decide) ?_
    refine XS.iconst X84.here hx rfl (hb hby at_57) ?_
    refine iremM (g := (mkF m 58 #[.val (.int i0), .val (.int i1), .val (.int (i0 &&& (255 : Int32))), .val (.ref v8_s0), .val (.ref b10), .unset] [(.int (2 : Int32)), (.int ((i0 &&& (255 : Int32)) / (2 : Int32)))])) X84 hx rfl (hb hby at_58) rfl (by decide) ?_
    show Steps p.tables e below (T84.setTop (mkF m 59 #[.val (.int i0), .val (.int i1), .val (.int (i0 &&& (255 : Int32))), .val (.ref v8_s0), .val (.ref b10), .unset] [(.int (((i0 &&& (255 : Int32)) / (2 : Int32)) % (2 : Int32)))])) t
    refine XS.iconst X84.here hx rfl (hb hby at_59) ?_
    show Steps p.tables e below (T84.setTop (mkF m 60 #[.val (.int i0), .val (.int i1), .val (.int (i0 &&& (255 : Int32))), .val (.ref v8_s0), .val (.ref b10), .unset] [(.int (1 : Int32)), (.int (((i0 &&& (255 : Int32)) / (2 : Int32)) % (2 : Int32)))])) t
    exact k)
  obtain ⟨v89_s0, hv89_s0, P89⟩ : ∃ (v89_s0 : Int32), (v89_s0 = (if (((i0 &&& (255 : Int32)) / (2 : Int32)) % (2 : Int32)) = (1 : Int32) then (1 : Int32) else (0 : Int32))) ∧ (own_Go p e below S0 (T84.setTop (mkF m 68 #[.val (.int i0), .val (.int i1), .val (.int (i0 &&& (255 : Int32))), .val (.ref v8_s0), .val (.ref b10), .unset] [(.int v89_s0)]))) := by
    by_cases c86 : (((i0 &&& (255 : Int32)) / (2 : Int32)) % (2 : Int32)) = (1 : Int32)
    · skip
      have P87 : own_Go p e below S0 (T84.setTop (mkF m 68 #[.val (.int i0), .val (.int i1), .val (.int (i0 &&& (255 : Int32))), .val (.ref v8_s0), .val (.ref b10), .unset] [(.int (1 : Int32))])) := fun t k => P85 t (by
        show Steps p.tables e below (T84.setTop (mkF m 60 #[.val (.int i0), .val (.int i1), .val (.int (i0 &&& (255 : Int32))), .val (.ref v8_s0), .val (.ref b10), .unset] [(.int (1 : Int32)), (.int (((i0 &&& (255 : Int32)) / (2 : Int32)) % (2 : Int32)))])) t
        refine XS.icmpNo X84.here hx rfl (hb hby at_60) rfl (teq c86).2 ?_
        refine XS.iconst X84.here hx rfl (hb hby at_63) ?_
        refine XS.goto X84.here hx rfl (pc0 := 64) (pc' := 68) rfl (hb hby at_64) (by decide) (by decide) ?_
        show Steps p.tables e below (T84.setTop (mkF m 68 #[.val (.int i0), .val (.int i1), .val (.int (i0 &&& (255 : Int32))), .val (.ref v8_s0), .val (.ref b10), .unset] [(.int (1 : Int32))])) t
        exact k)
      exact ⟨(1 : Int32), (Eq.symm (if_pos c86)), P87⟩
    · skip
      have P88 : own_Go p e below S0 (T84.setTop (mkF m 68 #[.val (.int i0), .val (.int i1), .val (.int (i0 &&& (255 : Int32))), .val (.ref v8_s0), .val (.ref b10), .unset] [(.int (0 : Int32))])) := fun t k => P85 t (by
        show Steps p.tables e below (T84.setTop (mkF m 60 #[.val (.int i0), .val (.int i1), .val (.int (i0 &&& (255 : Int32))), .val (.ref v8_s0), .val (.ref b10), .unset] [(.int (1 : Int32)), (.int (((i0 &&& (255 : Int32)) / (2 : Int32)) % (2 : Int32)))])) t
        refine XS.icmpYes X84.here hx rfl (pc0 := 60) (pc' := 67) rfl (hb hby at_60) rfl (feq c86).2 (by decide) (by decide) ?_
        refine XS.iconst X84.here hx rfl (hb hby at_67) ?_
        show Steps p.tables e below (T84.setTop (mkF m 68 #[.val (.int i0), .val (.int i1), .val (.int (i0 &&& (255 : Int32))), .val (.ref v8_s0), .val (.ref b10), .unset] [(.int (0 : Int32))])) t
        exact k)
      exact ⟨(0 : Int32), (Eq.symm (if_neg c86)), P88⟩
  have F90 : Exa Z T84.heap b10 "com/example/names_for_good/namesforgood/protocol/EncodedValue" := F27.keep Kc84
  have P91 : own_Go p e below S0 (T84.setTop (mkF m 72 #[.val (.int i0), .val (.int i1), .val (.int (i0 &&& (255 : Int32))), .val (.ref v8_s0), .val (.ref b10), .val (.int v89_s0)] [(.ref b10)])) := fun t k => P89 t (by
    show Steps p.tables e below (T84.setTop (mkF m 68 #[.val (.int i0), .val (.int i1), .val (.int (i0 &&& (255 : Int32))), .val (.ref v8_s0), .val (.ref b10), .unset] [(.int v89_s0)])) t
    refine XS.istore X84.here hx rfl (hb hby at_68) rfl (l' := #[.val (.int i0), .val (.int i1), .val (.int (i0 &&& (255 : Int32))), .val (.ref v8_s0), .val (.ref b10), .val (.int v89_s0)]) rfl ?_
    refine XS.aload X84.here hx rfl (hb hby at_70) rfl rfl ?_
    show Steps p.tables e below (T84.setTop (mkF m 72 #[.val (.int i0), .val (.int i1), .val (.int (i0 &&& (255 : Int32))), .val (.ref v8_s0), .val (.ref b10), .val (.int v89_s0)] [(.ref b10)])) t
    exact k)
  obtain ⟨cq92, kq92, q92a, q92b, q92c⟩ := isOf hZ14 rfl F90
  obtain ⟨_, _, ⟨T92, L92, k92, n92⟩, -, X92, ⟨Lc92, hQ92, l92, y92, z92⟩, st92⟩ := X84.virtualBack hx (y := (⟨"com/example/names_for_good/namesforgood/protocol/EncodedValue", "isPubliclyReadable", "()Z"⟩ : MethodName)) (z := (⟨"com/example/names_for_good/namesforgood/protocol/EncodedValue", "isPubliclyReadable", "()Z"⟩ : MethodName)) hown14 (mvT hZ14 (hw _ (List.mem_of_getElem? (i := 72) rfl))) (mvT hZ14 (hw _ (List.mem_of_getElem? (i := 73) rfl))) (notFace_of_selects (args := #[]) (mvT hZ14 (hw _ (List.mem_of_getElem? (i := 75) rfl)))) (mvT hZ14 (hw _ (List.mem_of_getElem? (i := 75) rfl))) (mvT hZ14 (hw _ (List.mem_of_getElem? (i := 74) rfl))) (by decide) (backOf (W := 0) (rm6 l Z a0 hw [] b10 (i0 &&& (255 : Int32)) T84.heap n0 (Nat.le_trans Z0 K84.1) F84_7) hZ14 (hw _ (List.mem_of_getElem? (i := 76) rfl)) (hw _ (List.mem_of_getElem? (i := 5) rfl)) (by decide) (by decide)) q92a q92c (g := (mkF m 72 #[.val (.int i0), .val (.int i1), .val (.int (i0 &&& (255 : Int32))), .val (.ref v8_s0), .val (.ref b10), .val (.int v89_s0)] [(.ref b10)])) rfl (by rw [hml]; rfl) (Steps.refl _) (argsL := []) (rest := []) (lenOf pd_2 rfl) rfl (by show 2 * 0 + _ ≤ _; exact Nat.le_of_eq rfl) (hb hby at_72) (fun _ _ => ⟨rfl, rfl, (by decide : 5 + 0 ≤ _), (by decide : 33 + 0 ≤ _)⟩)
  dsimp only [Pt.U, Pt.locs, Pt.cells, Pt.slots] at X92 l92 y92 z92 st92 hQ92
  subst l92 y92 z92
  obtain ⟨rfl, N92q, e92⟩ := hQ92
  have N92 := Fr.app N84 N92q
  have P92 : own_Go p e below S0 (T92.setTop (mkF m 75 #[.val (.int i0), .val (.int i1), .val (.int (i0 &&& (255 : Int32))), .val (.ref v8_s0), .val (.ref b10), .val (.int v89_s0)] [(.int (r6 (i0 &&& (255 : Int32))))])) := fun t k => P91 t (st92.trans k)
  have c93 : (r6 (i0 &&& (255 : Int32))) = v89_s0 := (own_law _).trans (Eq.symm hv89_s0)
  have P94 : own_Go p e below S0 (T92.setTop (mkF m 82 #[.val (.int i0), .val (.int i1), .val (.int (i0 &&& (255 : Int32))), .val (.ref v8_s0), .val (.ref b10), .val (.int v89_s0)] [(.ref b10)])) := fun t k => P92 t (by
    show Steps p.tables e below (T92.setTop (mkF m 75 #[.val (.int i0), .val (.int i1), .val (.int (i0 &&& (255 : Int32))), .val (.ref v8_s0), .val (.ref b10), .val (.int v89_s0)] [(.int (r6 (i0 &&& (255 : Int32))))])) t
    refine XS.iload X92.here hx rfl (hb hby at_75) rfl ?_
    refine XS.icmpNo X92.here hx rfl (hb hby at_77) rfl (teq c93).2 ?_
    refine XS.aload X92.here hx rfl (hb hby at_80) rfl rfl ?_
    show Steps p.tables e below (T92.setTop (mkF m 82 #[.val (.int i0), .val (.int i1), .val (.int (i0 &&& (255 : Int32))), .val (.ref v8_s0), .val (.ref b10), .val (.int v89_s0)] [(.ref b10)])) t
    exact k)
  obtain ⟨cq95, kq95, q95a, q95b, q95c⟩ := isOf hZ14 e92 F90
  obtain ⟨_, _, ⟨T95, L95, k95, n95⟩, -, X95, ⟨Lc95, hQ95, l95, y95, z95⟩, st95⟩ := X92.virtualBack hx (y := (⟨"com/example/names_for_good/namesforgood/protocol/EncodedValue", "permissions", "()I"⟩ : MethodName)) (z := (⟨"com/example/names_for_good/namesforgood/protocol/EncodedValue", "permissions", "()I"⟩ : MethodName)) hown14 (mvT hZ14 (hw _ (List.mem_of_getElem? (i := 77) rfl))) (mvT hZ14 (hw _ (List.mem_of_getElem? (i := 78) rfl))) (notFace_of_selects (args := #[]) (mvT hZ14 (hw _ (List.mem_of_getElem? (i := 80) rfl)))) (mvT hZ14 (hw _ (List.mem_of_getElem? (i := 80) rfl))) (mvT hZ14 (hw _ (List.mem_of_getElem? (i := 79) rfl))) (by decide) (backOf (W := 0) (rm7 l Z a0 hw [] b10 (i0 &&& (255 : Int32)) T84.heap n0 (Nat.le_trans Z0 K84.1) F84_7) hZ14 (hw _ (List.mem_of_getElem? (i := 81) rfl)) (hw _ (List.mem_of_getElem? (i := 5) rfl)) (by decide) (by decide)) q95a q95c (g := (mkF m 82 #[.val (.int i0), .val (.int i1), .val (.int (i0 &&& (255 : Int32))), .val (.ref v8_s0), .val (.ref b10), .val (.int v89_s0)] [(.ref b10)])) rfl (by rw [hml]; rfl) (Steps.refl _) (argsL := []) (rest := []) (lenOf pd_3 rfl) rfl (by show 2 * 0 + _ ≤ _; exact Nat.le_of_eq rfl) (hb hby at_82) (fun _ _ => ⟨rfl, e92, (by decide : 5 + 0 ≤ _), (by decide : 33 + 0 ≤ _)⟩)
  dsimp only [Pt.U, Pt.locs, Pt.cells, Pt.slots] at X95 l95 y95 z95 st95 hQ95
  subst l95 y95 z95
  obtain ⟨rfl, N95q, e95⟩ := hQ95
  have N95 := Fr.app N92 N95q
  have P95 : own_Go p e below S0 (T95.setTop (mkF m 85 #[.val (.int i0), .val (.int i1), .val (.int (i0 &&& (255 : Int32))), .val (.ref v8_s0), .val (.ref b10), .val (.int v89_s0)] [(.int (i0 &&& (255 : Int32)))])) := fun t k => P94 t (st95.trans k)
  have P96 : own_Go p e below S0 (T95.setTop (mkF m 94 #[.val (.int i0), .val (.int i1), .val (.int (i0 &&& (255 : Int32))), .val (.ref v8_s0), .val (.ref b10), .val (.int v89_s0)] [(.int (1 : Int32))])) := fun t k => P95 t (by
    show Steps p.tables e below (T95.setTop (mkF m 85 #[.val (.int i0), .val (.int i1), .val (.int (i0 &&& (255 : Int32))), .val (.ref v8_s0), .val (.ref b10), .val (.int v89_s0)] [(.int (i0 &&& (255 : Int32)))])) t
    refine XS.iloadN X95.here hx rfl (hb hby at_85) rfl ?_
    refine XS.icmpNo X95.here hx rfl (hb hby at_86) rfl (teq rfl).2 ?_
    refine XS.iconst X95.here hx rfl (hb hby at_89) ?_
    refine XS.goto X95.here hx rfl (pc0 := 90) (pc' := 94) rfl (hb hby at_90) (by decide) (by decide) ?_
    show Steps p.tables e below (T95.setTop (mkF m 94 #[.val (.int i0), .val (.int i1), .val (.int (i0 &&& (255 : Int32))), .val (.ref v8_s0), .val (.ref b10), .val (.int v89_s0)] [(.int (1 : Int32))])) t
    exact k)
  have F97 : Arv Z h19 b12 k12 .byte (0 : Int32) [] (.int (0 : Int32)) := F17.ext E19
  have F98 : Arv Z T25.heap b12 k12 .byte (0 : Int32) [] (.int (0 : Int32)) := F97.keep Kc25 (ninS ne_b12_b19 nin0)
  have F99 : Arv Z T84.heap b12 k12 .byte (0 : Int32) [] (.int (0 : Int32)) := F98.keep Kc84 (ninS (Ne.symm ne_b10_b12) nin0)
  have F100 : Exa Z T25.heap b19 "java/util/ArrayList" := A19.keep Kc25
  have F101 : Exa Z T84.heap b19 "java/util/ArrayList" := F100.keep Kc84
  have F102 : Fld Z T84.heap b19 "java/util/ArrayList" "elementData" "[Ljava/lang/Object;" (.ref z0_DEFAULTCAPACITY_EMPTY_ELEMENTDATA) := F25_0.keep Kc84 (ninS (Ne.symm ne_b10_b19) nin0)
  have F103 : Fld Z T84.heap b19 "java/util/AbstractList" "modCount" "I" (.int (0 : Int32)) := F25_1.keep Kc84 (ninS (Ne.symm ne_b10_b19) nin0)
  obtain ⟨fs, hr, hrun, hended, hend⟩ := X95.leaveW hS14 (by rw [e95]; exact hk84) (v := some (.int (1 : Int32))) (fun h => by rw [Bd.returns] at h; cases h)
  refine ⟨_, _, own_from hE0 (P96 _ ?_), hrun, hended, _, _, rfl, ?_, hend.1, hend.2.1, hend.2.2.1, hend.2.2.2.mono (by decide) (by decide)⟩
  · show Steps p.tables e below (T95.setTop (mkF m 94 #[.val (.int i0), .val (.int i1), .val (.int (i0 &&& (255 : Int32))), .val (.ref v8_s0), .val (.ref b10), .val (.int v89_s0)] [(.int (1 : Int32))])) _
    exact retN X95 hx (t := .boolean) Bd.returns (by simp) (hb hby at_94) hr
  · show Q0 Z i0 i1 z0_RELATIVE z0_ABSOLUTE z0_DEFAULTCAPACITY_EMPTY_ELEMENTDATA h0 n0 _ T95.heap _
    rw [e95]
    exact ⟨rfl, N95⟩
set_option maxRecDepth 65536 in
set_option maxHeartbeats 40000000 in
theorem comes_1 {Post : Tables → Env → Array Value → State → Outcome → State → Prop} (hpost : ∀ tb e args s v u, (limb_1_1.after args s (.returned v) u = true ∧ limb_1_2.after args s (.returned v) u = true ∧ True) → ReturnedEndW s (.returned v) u (Jvm.fieldLocs frame_1_writes args s ++ Jvm.arrayLocs frame_1_arrays args s ++ Jvm.staticLocs frame_1_statics s) 16 1152 → Post tb e args s (.returned v) u) :
    ArmFor flags0 classFile x code maxLocals ret World_1 tables_1 room_1 Calls_1 rest_1 Pre_1 Post := by
  intro l hfl _ _ p e ha hc hk s m args below hf hA hF happ hP
  obtain ⟨hcalls, hrest, hpre⟩ := hP
  obtain ⟨-, -, -, hnamed, -, -, -, hat⟩ := (Spec.applies_iff hf).mp happ
  obtain ⟨hg, hn⟩ := and_e (Cond.before_iff.mp (show (Jvm.Cond.and given_1 narrow_1).before args s = true from hpre))
  obtain ⟨ga1, gb1⟩ := and_e hg
  obtain ⟨ga2, gb2⟩ := and_e gb1
  obtain ⟨w0, w1, rfl⟩ : ∃ w0 w1 : Value, args = #[w0, w1] := by
    have hs : args.size = 2 := by simpa [Cond.value, given_1] using ga1
    obtain ⟨L⟩ := args
    match L, hs with
    | [w0, w1], _ => exact ⟨w0, w1, rfl⟩
  have hw := fun d (hd : d ∈ tables_1) => atoms_spec (ws := Jvm.Cond.code x code maxLocals ret :: tables_1) hat d (List.mem_cons_of_mem _ hd)
  have hfit : Fit s := fun {y c} hc i hi => by
    obtain ⟨ha, rfl⟩ := Array.getElem?_eq_some_iff.mp hc
    have q := List.all_eq_true.mp ((Array.all_eq_true_iff_forall_mem.mp hF) _ (Array.getElem_mem ha)) i (List.mem_range.mpr hi)
    simpa [Array.getElem?_eq_getElem hi] using q
  obtain ⟨hsets, hown0⟩ := atoms_of _ (rest_1_c_eq ▸ (show rest_1_c.before _ s = true from hrest))
  obtain ⟨i0, ei0⟩ := is_v ga2
  obtain rfl : w0 = (.int i0) := Option.some.inj ei0
  obtain ⟨i1, ei1⟩ := is_v gb2
  obtain rfl : w1 = (.int i1) := Option.some.inj ei1
  obtain ⟨ga3, gb3⟩ := and_e hn
  obtain ⟨z0_RELATIVE, ev1⟩ := exa_v gb3
  have S_RELATIVE : Sta s s.heap "com/example/names_for_good/namesforgood/records/HandleValue$TtlType" "RELATIVE" "Lcom/example/names_for_good/namesforgood/records/HandleValue$TtlType;" (.ref z0_RELATIVE) := Sta.start ev1 (Or.inr ⟨(hw _ (List.mem_of_getElem? (i := 1) rfl)), (hw _ (List.mem_of_getElem? (i := 83) rfl))⟩)
  have Ex_z0_RELATIVE : Exa s s.heap z0_RELATIVE "com/example/names_for_good/namesforgood/records/HandleValue$TtlType" := Exa.start ev1 gb3
  obtain ⟨z0_ABSOLUTE, ev2⟩ := exa_v ga3
  have S_ABSOLUTE : Sta s s.heap "com/example/names_for_good/namesforgood/records/HandleValue$TtlType" "ABSOLUTE" "Lcom/example/names_for_good/namesforgood/records/HandleValue$TtlType;" (.ref z0_ABSOLUTE) := Sta.start ev2 (Or.inr ⟨(hw _ (List.mem_of_getElem? (i := 1) rfl)), (hw _ (List.mem_of_getElem? (i := 2) rfl))⟩)
  have Ex_z0_ABSOLUTE : Exa s s.heap z0_ABSOLUTE "com/example/names_for_good/namesforgood/records/HandleValue$TtlType" := Exa.start ev2 ga3
  obtain ⟨z0_DEFAULTCAPACITY_EMPTY_ELEMENTDATA, ev3⟩ := exa_v (Cond.before_iff.mp (hsets _ (List.mem_of_getElem? (i := 7) rfl)))
  have S_DEFAULTCAPACITY_EMPTY_ELEMENTDATA : Sta s s.heap "java/util/ArrayList" "DEFAULTCAPACITY_EMPTY_ELEMENTDATA" "[Ljava/lang/Object;" (.ref z0_DEFAULTCAPACITY_EMPTY_ELEMENTDATA) := Sta.start ev3 (Or.inr ⟨(hw _ (List.mem_of_getElem? (i := 16) rfl)), (hsets _ (List.mem_of_getElem? (i := 2) rfl))⟩)
  have Ex_z0_DEFAULTCAPACITY_EMPTY_ELEMENTDATA : Exa s s.heap z0_DEFAULTCAPACITY_EMPTY_ELEMENTDATA "[Ljava/lang/Object;" := Exa.start ev3 (Cond.before_iff.mp (hsets _ (List.mem_of_getElem? (i := 7) rfl)))
  obtain ⟨n, o, h1, h2, h3, _, L, rfl, ⟨rfl, N⟩, hq⟩ := rm0 l s _ hw tables_1 i0 i1 z0_RELATIVE z0_ABSOLUTE z0_DEFAULTCAPACITY_EMPTY_ELEMENTDATA s.heap s.heap.size (Nat.le_refl _) S_RELATIVE S_ABSOLUTE S_DEFAULTCAPACITY_EMPTY_ELEMENTDATA p e ha hc hk s m _ below hf ((Spec.applies_iff_loose hf).mp happ).1 ⟨rfl, State.Warmed39.refl s, rfl⟩ trivial
  refine ⟨n, _, h1, h2, h3, hpost _ _ _ _ _ _ ⟨Cond.after_iff.mpr rfl, Cond.after_iff.mpr (eq_i res_at (Term.int_eval (1)) rfl), trivial⟩ ⟨hq.1, hq.2.1, hq.2.2.1, (hq.2.2.2.sift fun y hy => Or.inr (N y hy)).mono (by decide) (by decide)⟩⟩
theorem main_1_1 : Claimed_1_1 := comes_1 fun _ _ _ _ _ _ h hF => ⟨h.1, hF⟩
theorem main_1_2 : Claimed_1_2 := comes_1 fun _ _ _ _ _ _ h hF => ⟨h.2.1, hF⟩
end Jvm.Pilot.@@N@@
namespace Jvm.Pilot.@@N@@
open Jvm Jvm.ClassFile Sem Op Lib Jvm.Free Jvm.Stand Jvm.Pilot.@@N@@.Jvm.D
/-! MADE BY PROGRAM (witnessworld.py) out of the Statement's table words and the real class files: 25 classes; the members and pool entries that the words name. The judged class is class 1, her method 1. -/
namespace start1
open Jvm.ClassFile
def u (s : String) : CpInfo := .utf8 (stringToUtf16 s)
/-- a pool by its gaps: so many unusable entries, then the entry; so many at the end -/
def gap : Nat → List CpInfo → List CpInfo
  | 0, r => r
  | n + 1, r => .unusable :: gap n r
def poolList (es : List (Nat × CpInfo)) (last : Nat) : List CpInfo := es.foldr (fun e r => gap e.1 (e.2 :: r)) (gap last [])
def pool (es : List (Nat × CpInfo)) (last : Nat) : Array CpInfo := ⟨poolList es last⟩
def fileOf (pool : Array CpInfo) (this : Nat) (attrs : Array Attribute := #[]) (ms : Array MethodInfo := #[]) (fl : Nat := 33) (sup : Nat := 0) (ifs : Array Nat := #[]) (fds : Array FieldInfo := #[]) : ClassFile where
  minorVersion := 0
  majorVersion := 65
  constantPool := pool
  accessFlags := fl
  thisClass := this
  superClass := sup
  interfaces := ifs
  fields := fds
  methods := ms
  attributes := attrs
def plain (name : String) (sup : Option ClassId) : Class where
  name := name
  kind := .ordinary
  loader := none
  accessFlags := 33
  super := sup
  interfaces := #[]
  cf := none
  fields := #[]
  methods := #[]
  instanceTypes := #[]
  staticTypes := #[]
  resolved := #[]
  callSites := []
  init := .initialized
  statics := none
  mirror := none

def pool0 : Array CpInfo := pool [(5, u "<init>"), (0, u "()V"), (1, .class_ 10), (1, u "java/lang/Object")] 113

def k0c0 : Code := { maxStack := 0, maxLocals := 1, code := object_method_1_code, exceptionTable := #[], attributes := #[] }
def k0m0 : Method := { name := "<init>", desc := "()V", sig := { parameters := [], returnType := none }, accessFlags := 1, code := some k0c0 }
/-- java/lang/Object -/
def k0 : Class := { plain "java/lang/Object" none with
  accessFlags := 33
  interfaces := #[]
  cf := some (fileOf pool0 8 #[] #[{ accessFlags := 1, nameIndex := 5, descriptorIndex := 6, attributes := #[] }] 33 0 #[] #[])
  fields := #[]
  methods := #[k0m0]
  instanceTypes := #[]
  staticTypes := #[]
  resolved := Array.replicate 124 none
  statics := none }

def pool1 : Array CpInfo := pool [(2, .class_ 4), (0, .nameAndType 5 6), (0, u "java/lang/Object"), (0, u "<init>"), (0, u "()V"), (0, .fieldref 8 9), (0, .class_ 10), (0, .nameAndType 11 12), (0, u "com/example/names_for_good/namesforgood/records/HandleValue$TtlType"), (0, u "ABSOLUTE"), (0, u "Lcom/example/names_for_good/namesforgood/records/HandleValue$TtlType;"), (0, .fieldref 8 14), (0, .nameAndType 15 12), (0, u "RELATIVE"), (0, .class_ 17), (0, u "com/example/names_for_good/namesforgood/protocol/EncodedValue"), (0, .string 19), (0, u "URL"), (0, .class_ 21), (0, u "java/util/ArrayList"), (0, .methodref 20 3), (0, .methodref 16 24), (0, .nameAndType 5 25), (0, u "([BIIJJLcom/example/names_for_good/namesforgood/records/HandleValue$TtlType;JILjava/lang/String;IIIILjava/util/List;)V"), (0, .methodref 16 27), (0, .nameAndType 28 29), (0, u "isPubliclyReadable"), (0, u "()Z"), (0, .methodref 16 31), (0, .nameAndType 32 33), (0, u "permissions"), (0, u "()I"), (0, .class_ 35), (0, u "com/example/names_for_good/namesforgood/protocol/EncodedValueIsPubliclyReadablePinLaw"), (2, u "law"), (0, u "(II)Z")] 7

def k1m0 : Method := { name := "<init>", desc := "()V", sig := { parameters := [], returnType := none }, accessFlags := 1, code := none }
def k1c1 : Code := { maxStack := 20, maxLocals := 6, code := code, exceptionTable := #[], attributes := #[] }
def k1m1 : Method := { name := "law", desc := "(II)Z", sig := { parameters := [.int, .int], returnType := some .boolean }, accessFlags := 9, code := some k1c1 }
/-- com/example/names_for_good/namesforgood/protocol/EncodedValueIsPubliclyReadablePinLaw -/
def k1 : Class := { plain "com/example/names_for_good/namesforgood/protocol/EncodedValueIsPubliclyReadablePinLaw" (some 0) with
  accessFlags := 49
  interfaces := #[]
  cf := some (fileOf pool1 34 #[] #[{ accessFlags := 1, nameIndex := 5, descriptorIndex := 6, attributes := #[] }, { accessFlags := 9, nameIndex := 38, descriptorIndex := 39, attributes := #[] }] 49 2 #[] #[])
  fields := #[]
  methods := #[k1m0, k1m1]
  instanceTypes := #[]
  staticTypes := #[]
  resolved := Array.replicate 47 none
  statics := none }

def pool2 : Array CpInfo := pool [(1, .class_ 2), (0, u "java/lang/constant/Constable"), (0, .class_ 4), (0, u "java/lang/Object")] 6

/-- java/lang/constant/Constable -/
def k2 : Class := { plain "java/lang/constant/Constable" (some 0) with
  accessFlags := 1537
  interfaces := #[]
  cf := some (fileOf pool2 1 #[] #[] 1537 3 #[] #[])
  fields := #[]
  methods := #[]
  instanceTypes := #[]
  staticTypes := #[]
  resolved := Array.replicate 11 none
  statics := none }

def pool3 : Array CpInfo := pool [(1, .class_ 2), (0, u "java/lang/Comparable"), (0, .class_ 4), (0, u "java/lang/Object")] 7

/-- java/lang/Comparable -/
def k3 : Class := { plain "java/lang/Comparable" (some 0) with
  accessFlags := 1537
  interfaces := #[]
  cf := some (fileOf pool3 1 #[] #[] 1537 3 #[] #[])
  fields := #[]
  methods := #[]
  instanceTypes := #[]
  staticTypes := #[]
  resolved := Array.replicate 12 none
  statics := none }

def pool4 : Array CpInfo := pool [(1, .class_ 2), (0, u "java/io/Serializable"), (0, .class_ 4), (0, u "java/lang/Object")] 2

/-- java/io/Serializable -/
def k4 : Class := { plain "java/io/Serializable" (some 0) with
  accessFlags := 1537
  interfaces := #[]
  cf := some (fileOf pool4 1 #[] #[] 1537 3 #[] #[])
  fields := #[]
  methods := #[]
  instanceTypes := #[]
  staticTypes := #[]
  resolved := Array.replicate 7 none
  statics := none }

def pool5 : Array CpInfo := pool [(2, .class_ 4), (1, u "java/lang/Enum"), (0, u "name"), (0, u "Ljava/lang/String;"), (2, u "ordinal"), (0, u "I"), (1, .class_ 14), (1, u "java/lang/Object"), (4, u "hash"), (86, .class_ 108), (1, u "java/lang/Enum$EnumDesc"), (2, .class_ 112), (0, u "java/lang/constant/Constable"), (0, .class_ 114), (0, u "java/lang/Comparable"), (0, .class_ 116), (0, u "java/io/Serializable")] 87

/-- java/lang/Enum -/
def k5 : Class := { plain "java/lang/Enum" (some 0) with
  accessFlags := 1057
  interfaces := #[2, 3, 4]
  cf := some (fileOf pool5 2 #[.nestMembers #[106]] #[] 1057 12 #[111, 113, 115] #[{ accessFlags := 18, nameIndex := 5, descriptorIndex := 6, attributes := #[] }, { accessFlags := 18, nameIndex := 9, descriptorIndex := 10, attributes := #[] }, { accessFlags := 2, nameIndex := 19, descriptorIndex := 10, attributes := #[] }])
  fields := #[{ name := "name", type := (.object "java/lang/String"), accessFlags := 18, slot := 0, constantValue := 0 }, { name := "ordinal", type := .int, accessFlags := 18, slot := 1, constantValue := 0 }, { name := "hash", type := .int, accessFlags := 2, slot := 2, constantValue := 0 }]
  methods := #[]
  instanceTypes := #[(.object "java/lang/String"), .int, .int]
  staticTypes := #[]
  resolved := Array.replicate 204 none
  statics := none }

def pool6 : Array CpInfo := pool [(1, .class_ 2), (0, u "com/example/names_for_good/namesforgood/records/HandleValue$TtlType"), (2, u "RELATIVE"), (0, u "Lcom/example/names_for_good/namesforgood/records/HandleValue$TtlType;"), (2, u "ABSOLUTE"), (2, u "$VALUES"), (0, u "[Lcom/example/names_for_good/namesforgood/records/HandleValue$TtlType;"), (6, .class_ 22), (1, u "java/lang/Enum"), (25, .class_ 49), (0, u "com/example/names_for_good/namesforgood/records/HandleValue")] 2

/-- com/example/names_for_good/namesforgood/records/HandleValue$TtlType -/
def k6 : Class := { plain "com/example/names_for_good/namesforgood/records/HandleValue$TtlType" (some 5) with
  accessFlags := 16433
  interfaces := #[]
  cf := some (fileOf pool6 1 #[.nestHost 48] #[] 16433 20 #[] #[{ accessFlags := 16409, nameIndex := 5, descriptorIndex := 6, attributes := #[] }, { accessFlags := 16409, nameIndex := 9, descriptorIndex := 6, attributes := #[] }, { accessFlags := 4122, nameIndex := 12, descriptorIndex := 13, attributes := #[] }])
  fields := #[{ name := "RELATIVE", type := (.object "com/example/names_for_good/namesforgood/records/HandleValue$TtlType"), accessFlags := 16409, slot := 0, constantValue := 0 }, { name := "ABSOLUTE", type := (.object "com/example/names_for_good/namesforgood/records/HandleValue$TtlType"), accessFlags := 16409, slot := 1, constantValue := 0 }, { name := "$VALUES", type := (.array (.object "com/example/names_for_good/namesforgood/records/HandleValue$TtlType")), accessFlags := 4122, slot := 2, constantValue := 0 }]
  methods := #[]
  instanceTypes := #[(.object "java/lang/String"), .int, .int]
  staticTypes := #[(.object "com/example/names_for_good/namesforgood/records/HandleValue$TtlType"), (.object "com/example/names_for_good/namesforgood/records/HandleValue$TtlType"), (.array (.object "com/example/names_for_good/namesforgood/records/HandleValue$TtlType"))]
  resolved := Array.replicate 52 none
  statics := some 0 }

def pool7 : Array CpInfo := pool [(1, .methodref 2 3), (0, .class_ 4), (0, .nameAndType 5 6), (0, u "java/lang/Object"), (0, u "<init>"), (0, u "()V"), (0, .fieldref 8 9), (0, .class_ 10), (0, .nameAndType 11 12), (0, u "com/example/names_for_good/namesforgood/protocol/EncodedValue"), (0, u "octets"), (0, u "[B"), (0, .fieldref 8 14), (0, .nameAndType 15 16), (0, u "from"), (0, u "I"), (0, .fieldref 8 18), (0, .nameAndType 19 16), (0, u "to"), (0, .fieldref 8 21), (0, .nameAndType 22 23), (0, u "index"), (0, u "J"), (0, .fieldref 8 25), (0, .nameAndType 26 23), (0, u "timestamp"), (0, .fieldref 8 28), (0, .nameAndType 29 30), (0, u "ttlType"), (0, u "Lcom/example/names_for_good/namesforgood/records/HandleValue$TtlType;"), (0, .fieldref 8 32), (0, .nameAndType 33 23), (0, u "ttl"), (0, .fieldref 8 35), (0, .nameAndType 36 16), (0, u "permissions"), (0, .fieldref 8 38), (0, .nameAndType 39 40), (0, u "type"), (0, u "Ljava/lang/String;"), (0, .fieldref 8 42), (0, .nameAndType 43 16), (0, u "typeFrom"), (0, .fieldref 8 45), (0, .nameAndType 46 16), (0, u "typeLength"), (0, .fieldref 8 48), (0, .nameAndType 49 16), (0, u "dataFrom"), (0, .fieldref 8 51), (0, .nameAndType 52 16), (0, u "dataLength"), (0, .fieldref 8 54), (0, .nameAndType 55 56), (0, u "references"), (0, u "Ljava/util/List;"), (20, u "()I"), (6, u "SUB_TYPE_SEPARATOR"), (0, u "B"), (4, u "([BIIJJLcom/example/names_for_good/namesforgood/records/HandleValue$TtlType;JILjava/lang/String;IIIILjava/util/List;)V"), (7, u "isPubliclyReadable"), (0, u "()Z")] 13

def k7c0 : Code := { maxStack := 3, maxLocals := 18, code := prog_26_method_1_code, exceptionTable := #[], attributes := #[] }
def k7m0 : Method := { name := "<init>", desc := "([BIIJJLcom/example/names_for_good/namesforgood/records/HandleValue$TtlType;JILjava/lang/String;IIIILjava/util/List;)V", sig := { parameters := [(.array .byte), .int, .int, .long, .long, (.object "com/example/names_for_good/namesforgood/records/HandleValue$TtlType"), .long, .int, (.object "java/lang/String"), .int, .int, .int, .int, (.object "java/util/List")], returnType := none }, accessFlags := 0, code := some k7c0 }
def k7c1 : Code := { maxStack := 1, maxLocals := 1, code := prog_26_method_4_code, exceptionTable := #[], attributes := #[] }
def k7m1 : Method := { name := "permissions", desc := "()I", sig := { parameters := [], returnType := some .int }, accessFlags := 1, code := some k7c1 }
def k7c2 : Code := { maxStack := 2, maxLocals := 1, code := prog_26_method_6_code, exceptionTable := #[], attributes := #[] }
def k7m2 : Method := { name := "isPubliclyReadable", desc := "()Z", sig := { parameters := [], returnType := some .boolean }, accessFlags := 1, code := some k7c2 }
/-- com/example/names_for_good/namesforgood/protocol/EncodedValue -/
def k7 : Class := { plain "com/example/names_for_good/namesforgood/protocol/EncodedValue" (some 0) with
  accessFlags := 49
  interfaces := #[]
  cf := some (fileOf pool7 8 #[] #[{ accessFlags := 0, nameIndex := 5, descriptorIndex := 90, attributes := #[] }, { accessFlags := 1, nameIndex := 36, descriptorIndex := 77, attributes := #[] }, { accessFlags := 1, nameIndex := 98, descriptorIndex := 99, attributes := #[] }] 49 2 #[] #[{ accessFlags := 26, nameIndex := 84, descriptorIndex := 85, attributes := #[] }, { accessFlags := 18, nameIndex := 11, descriptorIndex := 12, attributes := #[] }, { accessFlags := 18, nameIndex := 15, descriptorIndex := 16, attributes := #[] }, { accessFlags := 18, nameIndex := 19, descriptorIndex := 16, attributes := #[] }, { accessFlags := 18, nameIndex := 22, descriptorIndex := 23, attributes := #[] }, { accessFlags := 18, nameIndex := 26, descriptorIndex := 23, attributes := #[] }, { accessFlags := 18, nameIndex := 29, descriptorIndex := 30, attributes := #[] }, { accessFlags := 18, nameIndex := 33, descriptorIndex := 23, attributes := #[] }, { accessFlags := 18, nameIndex := 36, descriptorIndex := 16, attributes := #[] }, { accessFlags := 18, nameIndex := 39, descriptorIndex := 40, attributes := #[] }, { accessFlags := 18, nameIndex := 43, descriptorIndex := 16, attributes := #[] }, { accessFlags := 18, nameIndex := 46, descriptorIndex := 16, attributes := #[] }, { accessFlags := 18, nameIndex := 49, descriptorIndex := 16, attributes := #[] }, { accessFlags := 18, nameIndex := 52, descriptorIndex := 16, attributes := #[] }, { accessFlags := 18, nameIndex := 55, descriptorIndex := 56, attributes := #[] }])
  fields := #[{ name := "SUB_TYPE_SEPARATOR", type := .byte, accessFlags := 26, slot := 0, constantValue := 0 }, { name := "octets", type := (.array .byte), accessFlags := 18, slot := 0, constantValue := 0 }, { name := "from", type := .int, accessFlags := 18, slot := 1, constantValue := 0 }, { name := "to", type := .int, accessFlags := 18, slot := 2, constantValue := 0 }, { name := "index", type := .long, accessFlags := 18, slot := 3, constantValue := 0 }, { name := "timestamp", type := .long, accessFlags := 18, slot := 4, constantValue := 0 }, { name := "ttlType", type := (.object "com/example/names_for_good/namesforgood/records/HandleValue$TtlType"), accessFlags := 18, slot := 5, constantValue := 0 }, { name := "ttl", type := .long, accessFlags := 18, slot := 6, constantValue := 0 }, { name := "permissions", type := .int, accessFlags := 18, slot := 7, constantValue := 0 }, { name := "type", type := (.object "java/lang/String"), accessFlags := 18, slot := 8, constantValue := 0 }, { name := "typeFrom", type := .int, accessFlags := 18, slot := 9, constantValue := 0 }, { name := "typeLength", type := .int, accessFlags := 18, slot := 10, constantValue := 0 }, { name := "dataFrom", type := .int, accessFlags := 18, slot := 11, constantValue := 0 }, { name := "dataLength", type := .int, accessFlags := 18, slot := 12, constantValue := 0 }, { name := "references", type := (.object "java/util/List"), accessFlags := 18, slot := 13, constantValue := 0 }]
  methods := #[k7m0, k7m1, k7m2]
  instanceTypes := #[(.array .byte), .int, .int, .long, .long, (.object "com/example/names_for_good/namesforgood/records/HandleValue$TtlType"), .long, .int, (.object "java/lang/String"), .int, .int, .int, .int, (.object "java/util/List")]
  staticTypes := #[.byte]
  resolved := Array.replicate 113 none
  statics := none }

def pool8 : Array CpInfo := pool [(2, .class_ 4), (1, u "java/lang/CharSequence"), (42, .class_ 48), (0, u "java/lang/CharSequence$1CodePointIterator"), (10, .class_ 60), (0, u "java/lang/CharSequence$1CharIterator"), (5, .class_ 67), (0, u "java/lang/Object")] 63

/-- java/lang/CharSequence -/
def k8 : Class := { plain "java/lang/CharSequence" (some 0) with
  accessFlags := 1537
  interfaces := #[]
  cf := some (fileOf pool8 2 #[.nestMembers #[47, 59]] #[] 1537 66 #[] #[])
  fields := #[]
  methods := #[]
  instanceTypes := #[]
  staticTypes := #[]
  resolved := Array.replicate 131 none
  statics := none }

def pool9 : Array CpInfo := pool [(1, .class_ 2), (0, u "java/lang/constant/ConstantDesc"), (0, .class_ 4), (0, u "java/lang/Object")] 32

/-- java/lang/constant/ConstantDesc -/
def k9 : Class := { plain "java/lang/constant/ConstantDesc" (some 0) with
  accessFlags := 1537
  interfaces := #[]
  cf := some (fileOf pool9 1 #[] #[] 1537 3 #[] #[])
  fields := #[]
  methods := #[]
  instanceTypes := #[]
  staticTypes := #[]
  resolved := Array.replicate 37 none
  statics := none }

def pool10 : Array CpInfo := pool [(2, .class_ 4), (1, u "java/lang/Object"), (0, u "<init>"), (0, u "()V"), (3, .class_ 12), (1, u "java/lang/String"), (0, u "value"), (0, u "[B"), (2, u "coder"), (0, u "B"), (2, u "hash"), (0, u "I"), (2, u "hashIsZero"), (0, u "Z"), (13, u "COMPACT_STRINGS"), (534, .class_ 576), (0, u "java/lang/CharSequence"), (22, u "CASE_INSENSITIVE_ORDER"), (0, u "Ljava/util/Comparator;"), (500, u "serialPersistentFields"), (0, u "[Ljava/io/ObjectStreamField;"), (0, .class_ 1104), (0, u "java/lang/String$CaseInsensitiveComparator"), (1, .class_ 1107), (0, u "java/io/Serializable"), (0, .class_ 1109), (0, u "java/lang/Comparable"), (0, .class_ 1111), (0, u "java/lang/constant/Constable"), (0, .class_ 1113), (0, u "java/lang/constant/ConstantDesc"), (2, u "serialVersionUID"), (0, u "J"), (3, u "REPL"), (0, u "C"), (2, u "LATIN1"), (1, u "UTF16")] 323

def k10m0 : Method := { name := "<init>", desc := "()V", sig := { parameters := [], returnType := none }, accessFlags := 1, code := none }
/-- java/lang/String -/
def k10 : Class := { plain "java/lang/String" (some 0) with
  accessFlags := 49
  interfaces := #[4, 3, 8, 2, 9]
  cf := some (fileOf pool10 10 #[.nestMembers #[1103]] #[{ accessFlags := 1, nameIndex := 5, descriptorIndex := 6, attributes := #[] }] 49 2 #[1106, 1108, 575, 1110, 1112] #[{ accessFlags := 18, nameIndex := 13, descriptorIndex := 14, attributes := #[] }, { accessFlags := 18, nameIndex := 17, descriptorIndex := 18, attributes := #[] }, { accessFlags := 2, nameIndex := 21, descriptorIndex := 22, attributes := #[] }, { accessFlags := 2, nameIndex := 25, descriptorIndex := 26, attributes := #[] }, { accessFlags := 26, nameIndex := 1116, descriptorIndex := 1117, attributes := #[] }, { accessFlags := 24, nameIndex := 40, descriptorIndex := 26, attributes := #[] }, { accessFlags := 26, nameIndex := 1101, descriptorIndex := 1102, attributes := #[] }, { accessFlags := 26, nameIndex := 1121, descriptorIndex := 1122, attributes := #[] }, { accessFlags := 25, nameIndex := 599, descriptorIndex := 600, attributes := #[] }, { accessFlags := 24, nameIndex := 1125, descriptorIndex := 18, attributes := #[] }, { accessFlags := 24, nameIndex := 1127, descriptorIndex := 18, attributes := #[] }])
  fields := #[{ name := "value", type := (.array .byte), accessFlags := 18, slot := 0, constantValue := 0 }, { name := "coder", type := .byte, accessFlags := 18, slot := 1, constantValue := 0 }, { name := "hash", type := .int, accessFlags := 2, slot := 2, constantValue := 0 }, { name := "hashIsZero", type := .boolean, accessFlags := 2, slot := 3, constantValue := 0 }, { name := "serialVersionUID", type := .long, accessFlags := 26, slot := 0, constantValue := 0 }, { name := "COMPACT_STRINGS", type := .boolean, accessFlags := 24, slot := 1, constantValue := 0 }, { name := "serialPersistentFields", type := (.array (.object "java/io/ObjectStreamField")), accessFlags := 26, slot := 2, constantValue := 0 }, { name := "REPL", type := .char, accessFlags := 26, slot := 3, constantValue := 0 }, { name := "CASE_INSENSITIVE_ORDER", type := (.object "java/util/Comparator"), accessFlags := 25, slot := 4, constantValue := 0 }, { name := "LATIN1", type := .byte, accessFlags := 24, slot := 5, constantValue := 0 }, { name := "UTF16", type := .byte, accessFlags := 24, slot := 6, constantValue := 0 }]
  methods := #[k10m0]
  instanceTypes := #[(.array .byte), .byte, .int, .boolean]
  staticTypes := #[.long, .boolean, (.array (.object "java/io/ObjectStreamField")), .char, (.object "java/util/Comparator"), .byte, .byte]
  resolved := Array.replicate 1451 none
  statics := none }

def pool11 : Array CpInfo := pool [(8, .class_ 10), (1, u "java/lang/Iterable"), (24, .class_ 36), (0, u "java/lang/Object")] 25

/-- java/lang/Iterable -/
def k11 : Class := { plain "java/lang/Iterable" (some 0) with
  accessFlags := 1537
  interfaces := #[]
  cf := some (fileOf pool11 8 #[] #[] 1537 35 #[] #[])
  fields := #[]
  methods := #[]
  instanceTypes := #[]
  staticTypes := #[]
  resolved := Array.replicate 62 none
  statics := none }

def pool12 : Array CpInfo := pool [(10, .class_ 12), (1, u "java/util/Collection"), (47, .class_ 61), (0, u "java/lang/Object"), (0, .class_ 63), (0, u "java/lang/Iterable")] 51

/-- java/util/Collection -/
def k12 : Class := { plain "java/util/Collection" (some 0) with
  accessFlags := 1537
  interfaces := #[11]
  cf := some (fileOf pool12 10 #[] #[] 1537 60 #[62] #[])
  fields := #[]
  methods := #[]
  instanceTypes := #[]
  staticTypes := #[]
  resolved := Array.replicate 115 none
  statics := none }

def pool13 : Array CpInfo := pool [(1, .methodref 2 3), (0, .class_ 4), (0, .nameAndType 5 6), (0, u "java/lang/Object"), (0, u "<init>"), (0, u "()V"), (1, .class_ 10), (1, u "java/util/AbstractCollection"), (66, .class_ 78), (0, u "java/util/Collection")] 81

def k13c0 : Code := { maxStack := 1, maxLocals := 1, code := jdk_22_method_1_code, exceptionTable := #[], attributes := #[] }
def k13m0 : Method := { name := "<init>", desc := "()V", sig := { parameters := [], returnType := none }, accessFlags := 4, code := some k13c0 }
/-- java/util/AbstractCollection -/
def k13 : Class := { plain "java/util/AbstractCollection" (some 0) with
  accessFlags := 1057
  interfaces := #[12]
  cf := some (fileOf pool13 8 #[] #[{ accessFlags := 4, nameIndex := 5, descriptorIndex := 6, attributes := #[] }] 1057 2 #[77] #[])
  fields := #[]
  methods := #[k13m0]
  instanceTypes := #[]
  staticTypes := #[]
  resolved := Array.replicate 160 none
  statics := none }

def pool14 : Array CpInfo := pool [(8, .class_ 10), (1, u "java/util/SequencedCollection"), (15, .class_ 27), (0, u "java/lang/Object"), (0, .class_ 29), (0, u "java/util/Collection")] 27

/-- java/util/SequencedCollection -/
def k14 : Class := { plain "java/util/SequencedCollection" (some 0) with
  accessFlags := 1537
  interfaces := #[12]
  cf := some (fileOf pool14 8 #[] #[] 1537 26 #[28] #[])
  fields := #[]
  methods := #[]
  instanceTypes := #[]
  staticTypes := #[]
  resolved := Array.replicate 57 none
  statics := none }

def pool15 : Array CpInfo := pool [(8, .class_ 10), (1, u "java/util/List"), (92, .class_ 104), (0, u "java/lang/Object"), (15, .class_ 121), (0, u "java/util/SequencedCollection")] 129

/-- java/util/List -/
def k15 : Class := { plain "java/util/List" (some 0) with
  accessFlags := 1537
  interfaces := #[14]
  cf := some (fileOf pool15 8 #[] #[] 1537 103 #[120] #[])
  fields := #[]
  methods := #[]
  instanceTypes := #[]
  staticTypes := #[]
  resolved := Array.replicate 251 none
  statics := none }

def pool16 : Array CpInfo := pool [(1, .methodref 2 3), (0, .class_ 4), (0, .nameAndType 5 6), (0, u "java/util/AbstractCollection"), (0, u "<init>"), (0, u "()V"), (0, .fieldref 8 9), (0, .class_ 10), (0, .nameAndType 11 12), (0, u "java/util/AbstractList"), (0, u "modCount"), (0, u "I"), (64, .class_ 78), (0, u "java/util/AbstractList$Itr"), (3, .class_ 83), (0, u "java/util/AbstractList$ListItr"), (9, .class_ 94), (0, u "java/util/AbstractList$RandomAccessSubList"), (3, .class_ 99), (0, u "java/util/AbstractList$SubList"), (33, .class_ 134), (0, u "java/util/List"), (73, .class_ 209), (0, u "java/util/AbstractList$SubList$1"), (0, .class_ 211), (0, u "java/util/AbstractList$RandomAccessSpliterator")] 6

def k16c0 : Code := { maxStack := 2, maxLocals := 1, code := jdk_39_method_1_code, exceptionTable := #[], attributes := #[] }
def k16m0 : Method := { name := "<init>", desc := "()V", sig := { parameters := [], returnType := none }, accessFlags := 4, code := some k16c0 }
/-- java/util/AbstractList -/
def k16 : Class := { plain "java/util/AbstractList" (some 13) with
  accessFlags := 1057
  interfaces := #[15]
  cf := some (fileOf pool16 8 #[.nestMembers #[93, 98, 208, 210, 82, 77]] #[{ accessFlags := 4, nameIndex := 5, descriptorIndex := 6, attributes := #[] }] 1057 2 #[133] #[{ accessFlags := 132, nameIndex := 11, descriptorIndex := 12, attributes := #[] }])
  fields := #[{ name := "modCount", type := .int, accessFlags := 132, slot := 0, constantValue := 0 }]
  methods := #[k16m0]
  instanceTypes := #[.int]
  staticTypes := #[]
  resolved := Array.replicate 218 none
  statics := none }

def pool17 : Array CpInfo := pool [(1, .class_ 2), (0, u "java/util/RandomAccess"), (0, .class_ 4), (0, u "java/lang/Object")] 2

/-- java/util/RandomAccess -/
def k17 : Class := { plain "java/util/RandomAccess" (some 0) with
  accessFlags := 1537
  interfaces := #[]
  cf := some (fileOf pool17 1 #[] #[] 1537 3 #[] #[])
  fields := #[]
  methods := #[]
  instanceTypes := #[]
  staticTypes := #[]
  resolved := Array.replicate 7 none
  statics := none }

def pool18 : Array CpInfo := pool [(1, .class_ 2), (0, u "java/lang/Cloneable"), (0, .class_ 4), (0, u "java/lang/Object")] 2

/-- java/lang/Cloneable -/
def k18 : Class := { plain "java/lang/Cloneable" (some 0) with
  accessFlags := 1537
  interfaces := #[]
  cf := some (fileOf pool18 1 #[] #[] 1537 3 #[] #[])
  fields := #[]
  methods := #[]
  instanceTypes := #[]
  staticTypes := #[]
  resolved := Array.replicate 7 none
  statics := none }

def pool19 : Array CpInfo := pool [(1, .methodref 2 3), (0, .class_ 4), (0, .nameAndType 5 6), (0, u "java/util/AbstractList"), (0, u "<init>"), (0, u "()V"), (2, .fieldref 10 11), (0, .class_ 12), (0, .nameAndType 13 14), (0, u "java/util/ArrayList"), (0, u "elementData"), (0, u "[Ljava/lang/Object;"), (2, u "EMPTY_ELEMENTDATA"), (21, .fieldref 10 40), (0, .nameAndType 41 14), (0, u "DEFAULTCAPACITY_EMPTY_ELEMENTDATA"), (8, u "size"), (0, u "I"), (96, .class_ 149), (0, u "java/util/List"), (112, .class_ 263), (0, u "java/util/ArrayList$ListItr"), (3, .class_ 268), (0, u "java/util/ArrayList$Itr"), (7, .class_ 277), (0, u "java/util/ArrayList$SubList"), (12, .class_ 291), (0, u "java/util/ArrayList$ArrayListSpliterator"), (37, .class_ 330), (0, u "java/util/RandomAccess"), (0, .class_ 332), (0, u "java/lang/Cloneable"), (0, .class_ 334), (0, u "java/io/Serializable"), (0, u "serialVersionUID"), (0, u "J"), (3, u "DEFAULT_CAPACITY"), (159, .class_ 501), (0, u "java/util/ArrayList$SubList$2"), (0, .class_ 503), (0, u "java/util/ArrayList$SubList$1")] 5

def k19c0 : Code := { maxStack := 2, maxLocals := 1, code := jdk_38_method_2_code, exceptionTable := #[], attributes := #[] }
def k19m0 : Method := { name := "<init>", desc := "()V", sig := { parameters := [], returnType := none }, accessFlags := 1, code := some k19c0 }
/-- java/util/ArrayList -/
def k19 : Class := { plain "java/util/ArrayList" (some 16) with
  accessFlags := 33
  interfaces := #[15, 17, 18, 4]
  cf := some (fileOf pool19 10 #[.nestMembers #[290, 276, 500, 502, 262, 267]] #[{ accessFlags := 1, nameIndex := 5, descriptorIndex := 6, attributes := #[] }] 33 2 #[148, 329, 331, 333] #[{ accessFlags := 26, nameIndex := 335, descriptorIndex := 336, attributes := #[] }, { accessFlags := 26, nameIndex := 340, descriptorIndex := 51, attributes := #[] }, { accessFlags := 26, nameIndex := 17, descriptorIndex := 14, attributes := #[] }, { accessFlags := 26, nameIndex := 41, descriptorIndex := 14, attributes := #[] }, { accessFlags := 128, nameIndex := 13, descriptorIndex := 14, attributes := #[] }, { accessFlags := 2, nameIndex := 50, descriptorIndex := 51, attributes := #[] }])
  fields := #[{ name := "serialVersionUID", type := .long, accessFlags := 26, slot := 0, constantValue := 0 }, { name := "DEFAULT_CAPACITY", type := .int, accessFlags := 26, slot := 1, constantValue := 0 }, { name := "EMPTY_ELEMENTDATA", type := (.array (.object "java/lang/Object")), accessFlags := 26, slot := 2, constantValue := 0 }, { name := "DEFAULTCAPACITY_EMPTY_ELEMENTDATA", type := (.array (.object "java/lang/Object")), accessFlags := 26, slot := 3, constantValue := 0 }, { name := "elementData", type := (.array (.object "java/lang/Object")), accessFlags := 128, slot := 1, constantValue := 0 }, { name := "size", type := .int, accessFlags := 2, slot := 2, constantValue := 0 }]
  methods := #[k19m0]
  instanceTypes := #[.int, (.array (.object "java/lang/Object")), .int]
  staticTypes := #[.long, .int, (.array (.object "java/lang/Object")), (.array (.object "java/lang/Object"))]
  resolved := Array.replicate 509 none
  statics := some 1 }

/-- the primitive byte -/
def k20 : Class := { plain "byte" none with kind := .primitive 'B', accessFlags := 0x411 }
/-- [B -/
def k21 : Class := { plain "[B" (some 0) with kind := .array 20 .byte, interfaces := #[18, 4], accessFlags := 1041 }

/-- the primitive int -/
def k22 : Class := { plain "int" none with kind := .primitive 'I', accessFlags := 0x411 }
/-- [I -/
def k23 : Class := { plain "[I" (some 0) with kind := .array 22 .int, interfaces := #[18, 4], accessFlags := 1041 }

/-- [Ljava/lang/Object; -/
def k24 : Class := { plain "[Ljava/lang/Object;" (some 0) with kind := .array 0 (.object "java/lang/Object"), interfaces := #[18, 4], accessFlags := 1041 }

def heap : Heap := #[{ cls := 6, slots := #[.ref 3, .ref 2, .null], vm := .statics 6 },
  { cls := 19, slots := #[.long 0, .int 0, .ref 4, .ref 5], vm := .statics 19 },
  { cls := 6, slots := #[.null, .int 0, .int 0], vm := .none },
  { cls := 6, slots := #[.null, .int 1, .int 0], vm := .none },
  { cls := 24, slots := #[], vm := .none },
  { cls := 24, slots := #[], vm := .none }]
def classes : Array Class := #[k0, k1, k2, k3, k4, k5, k6, k7, k8, k9, k10, k11, k12, k13, k14, k15, k16, k17, k18, k19, k20, k21, k22, k23, k24]
def interned : List (Array UInt16 × Addr) := []
def slotsUsed : Nat := 13
def theMethod : MethodId := ⟨1, 1⟩
def args0 : Array Value := #[.int 5, .int 3]
def aboutOver (below : List Frame) : State where
  vm := { classes := classes, interned := interned.toArray }
  heap := heap
  slotsUsed := slotsUsed
  threads := #[{ frames := .invoking theMethod args0 :: below }]
def below0 : List Frame := [.native { method := ⟨0, 0⟩, args := #[] }]
def about1 : State := aboutOver below0
def p0 : Program := .bare "" "" ""
def e0 : Env := launch0.env 0 0 0
theorem w_frames : about1.frames = Frame.invoking theMethod args0 :: below0 := rfl
set_option maxRecDepth 65536 in
theorem w_args : argsFit about1.vm theMethod args0 = true := by decide +kernel
set_option maxRecDepth 65536 in
theorem w_heap : heapFits about1 = true := by decide +kernel
set_option maxRecDepth 65536 in
theorem w_runnable : about1.curStatus? = some .runnable := by decide +kernel
set_option maxRecDepth 65536 in
theorem w_alone : about1.alone = true := by decide +kernel
set_option maxRecDepth 65536 in
theorem w_named : about1.methodNamed? x = some theMethod := by decide +kernel
set_option maxRecDepth 65536 in
theorem w_hears : about1.hears theMethod below0 = true := by decide +kernel
set_option maxRecDepth 65536 in
theorem w_ripe : about1.ripe theMethod args0 below0 = true := by decide +kernel
theorem w_running : about1.status = .running := rfl
set_option maxRecDepth 65536 in
theorem w_room : about1.hasRoom e0.platform room_1 = true :=
  launch0.hasRoom_least _ room_1 (by decide +kernel) (by decide +kernel) (by decide +kernel) (by decide +kernel) (by decide +kernel) (by decide +kernel)
theorem allAtoms_all (ts : List Jvm.Cond) (a : Array Jvm.Value) (st : Jvm.State) : (allAtoms ts).before a st = ts.all (fun c => c.before a st) := by
  induction ts with
  | nil => rfl
  | cons c t ih =>
    show (Jvm.Cond.and c (allAtoms t)).before a st = _
    rw [Jvm.Cond.before_and, ih, List.all_cons]
def words1 : List Jvm.Cond := Jvm.Cond.code x code maxLocals ret :: tables_1
/-- a 'code' word, met by the world's own term for the bytes: nothing is compared byte by byte -/
theorem code_word {y : MethodName} {bytes : ByteArray} {mx : Nat} {rt : Option FieldType} {a : Array Value} {s : State} {m : MethodId} {meth : Method} {c : Code} (h1 : s.methodNamed? y = some m) (h2 : s.vm.method? m = some meth) (h3 : meth.code = some c) (h4 : c.code = bytes)
    (h5 : (c.maxLocals == mx && c.exceptionTable.isEmpty && decide (c.maxStack ≤ mostOperands) && decide (meth.sig.returnType = rt) && !meth.locks && decide (parseMethodDescriptor y.desc = some meth.sig)) = true) : (Jvm.Cond.code y bytes mx rt).before a s = true := by
  simp only [Bool.and_eq_true, beq_iff_eq, Bool.not_eq_true', decide_eq_true_eq] at h5
  obtain ⟨⟨⟨⟨⟨g1, g2⟩, g3⟩, g4⟩, g5⟩, g6⟩ := h5
  simp [Cond.before, Cond.holds, Cond.value, h1, h2, h3, h4, g1, g2, g3, g4, g5, g6]
def isCode : Jvm.Cond → Bool
  | .code _ _ _ _ => true
  | _ => false
theorem all_split {L : List Jvm.Cond} {P : Jvm.Cond → Bool} (h1 : L.all (fun c => isCode c || P c) = true) (h2 : ∀ c ∈ L.filter isCode, P c = true) : L.all P = true := by
  refine List.all_eq_true.mpr fun c hc => ?_
  have h := List.all_eq_true.mp h1 c hc
  rcases Bool.eq_false_or_eq_true (isCode c) with hi | hi
  · exact h2 c (List.mem_filter.mpr ⟨hc, hi⟩)
  · simpa [hi] using h
set_option maxRecDepth 65536 in
theorem w_c0 : (Jvm.Cond.code x code maxLocals ret).before args0 about1 = true := code_word (m := ⟨1, 1⟩) (meth := k1m1) (c := k1c1) (by decide +kernel) rfl rfl rfl (by decide +kernel)
set_option maxRecDepth 65536 in
theorem w_c1 : (Jvm.Cond.code ({ cls := "java/util/ArrayList", name := "<init>", desc := "()V" } : Jvm.MethodName) jdk_38_method_2_code (1 : Nat) (Option.none : Option Jvm.ClassFile.FieldType)).before args0 about1 = true := code_word (m := ⟨19, 0⟩) (meth := k19m0) (c := k19c0) (by decide +kernel) rfl rfl rfl (by decide +kernel)
set_option maxRecDepth 65536 in
theorem w_c2 : (Jvm.Cond.code ({ cls := "java/util/AbstractList", name := "<init>", desc := "()V" } : Jvm.MethodName) jdk_39_method_1_code (1 : Nat) (Option.none : Option Jvm.ClassFile.FieldType)).before args0 about1 = true := code_word (m := ⟨16, 0⟩) (meth := k16m0) (c := k16c0) (by decide +kernel) rfl rfl rfl (by decide +kernel)
set_option maxRecDepth 65536 in
theorem w_c3 : (Jvm.Cond.code ({ cls := "java/util/AbstractCollection", name := "<init>", desc := "()V" } : Jvm.MethodName) jdk_22_method_1_code (1 : Nat) (Option.none : Option Jvm.ClassFile.FieldType)).before args0 about1 = true := code_word (m := ⟨13, 0⟩) (meth := k13m0) (c := k13c0) (by decide +kernel) rfl rfl rfl (by decide +kernel)
set_option maxRecDepth 65536 in
theorem w_c4 : (Jvm.Cond.code ({ cls := "java/lang/Object", name := "<init>", desc := "()V" } : Jvm.MethodName) object_method_1_code (1 : Nat) (Option.none : Option Jvm.ClassFile.FieldType)).before args0 about1 = true := code_word (m := ⟨0, 0⟩) (meth := k0m0) (c := k0c0) (by decide +kernel) rfl rfl rfl (by decide +kernel)
set_option maxRecDepth 65536 in
theorem w_c5 : (Jvm.Cond.code ({ cls := "com/example/names_for_good/namesforgood/protocol/EncodedValue", name := "<init>", desc := "([BIIJJLcom/example/names_for_good/namesforgood/records/HandleValue$TtlType;JILjava/lang/String;IIIILjava/util/List;)V" } : Jvm.MethodName) prog_26_method_1_code (18 : Nat) (Option.none : Option Jvm.ClassFile.FieldType)).before args0 about1 = true := code_word (m := ⟨7, 0⟩) (meth := k7m0) (c := k7c0) (by decide +kernel) rfl rfl rfl (by decide +kernel)
set_option maxRecDepth 65536 in
theorem w_c6 : (Jvm.Cond.code ({ cls := "com/example/names_for_good/namesforgood/protocol/EncodedValue", name := "isPubliclyReadable", desc := "()Z" } : Jvm.MethodName) prog_26_method_6_code (1 : Nat) (Option.some Jvm.ClassFile.FieldType.boolean)).before args0 about1 = true := code_word (m := ⟨7, 2⟩) (meth := k7m2) (c := k7c2) (by decide +kernel) rfl rfl rfl (by decide +kernel)
set_option maxRecDepth 65536 in
theorem w_c7 : (Jvm.Cond.code ({ cls := "com/example/names_for_good/namesforgood/protocol/EncodedValue", name := "permissions", desc := "()I" } : Jvm.MethodName) prog_26_method_4_code (1 : Nat) (Option.some Jvm.ClassFile.FieldType.int)).before args0 about1 = true := code_word (m := ⟨7, 1⟩) (meth := k7m1) (c := k7c1) (by decide +kernel) rfl rfl rfl (by decide +kernel)
def codes1 : List Jvm.Cond := [Jvm.Cond.code x code maxLocals ret, Jvm.Cond.code ({ cls := "java/util/ArrayList", name := "<init>", desc := "()V" } : Jvm.MethodName) jdk_38_method_2_code (1 : Nat) (Option.none : Option Jvm.ClassFile.FieldType), Jvm.Cond.code ({ cls := "java/util/AbstractList", name := "<init>", desc := "()V" } : Jvm.MethodName) jdk_39_method_1_code (1 : Nat) (Option.none : Option Jvm.ClassFile.FieldType), Jvm.Cond.code ({ cls := "java/util/AbstractCollection", name := "<init>", desc := "()V" } : Jvm.MethodName) jdk_22_method_1_code (1 : Nat) (Option.none : Option Jvm.ClassFile.FieldType), Jvm.Cond.code ({ cls := "java/lang/Object", name := "<init>", desc := "()V" } : Jvm.MethodName) object_method_1_code (1 : Nat) (Option.none : Option Jvm.ClassFile.FieldType), Jvm.Cond.code ({ cls := "com/example/names_for_good/namesforgood/protocol/EncodedValue", name := "<init>", desc := "([BIIJJLcom/example/names_for_good/namesforgood/records/HandleValue$TtlType;JILjava/lang/String;IIIILjava/util/List;)V" } : Jvm.MethodName) prog_26_method_1_code (18 : Nat) (Option.none : Option Jvm.ClassFile.FieldType), Jvm.Cond.code ({ cls := "com/example/names_for_good/namesforgood/protocol/EncodedValue", name := "isPubliclyReadable", desc := "()Z" } : Jvm.MethodName) prog_26_method_6_code (1 : Nat) (Option.some Jvm.ClassFile.FieldType.boolean), Jvm.Cond.code ({ cls := "com/example/names_for_good/namesforgood/protocol/EncodedValue", name := "permissions", desc := "()I" } : Jvm.MethodName) prog_26_method_4_code (1 : Nat) (Option.some Jvm.ClassFile.FieldType.int)]
set_option maxRecDepth 65536 in
theorem codes_eq : words1.filter isCode = codes1 := rfl
theorem w_codes : ∀ c ∈ words1.filter isCode, c.before args0 about1 = true := by
  rw [codes_eq]
  intro c hc
  simp only [codes1, List.mem_cons, List.not_mem_nil, or_false] at hc
  rcases hc with rfl | rfl | rfl | rfl | rfl | rfl | rfl | rfl
  · exact w_c0
  · exact w_c1
  · exact w_c2
  · exact w_c3
  · exact w_c4
  · exact w_c5
  · exact w_c6
  · exact w_c7
set_option maxRecDepth 65536 in
theorem w_t1 : (words1.take 24).all (fun c => isCode c || c.before args0 about1) = true := by decide +kernel
set_option maxRecDepth 65536 in
theorem w_t2 : ((words1.drop 24).take 24).all (fun c => isCode c || c.before args0 about1) = true := by decide +kernel
set_option maxRecDepth 65536 in
theorem w_t3 : (((words1.drop 24).drop 24).take 24).all (fun c => isCode c || c.before args0 about1) = true := by decide +kernel
set_option maxRecDepth 65536 in
theorem w_t4 : (((words1.drop 24).drop 24).drop 24).all (fun c => isCode c || c.before args0 about1) = true := by decide +kernel
theorem w_tables : (allAtoms (Jvm.Cond.code x code maxLocals ret :: tables_1)).before args0 about1 = true := by
  rw [allAtoms_all]
  show words1.all (fun c => c.before args0 about1) = true
  refine all_split ?_ w_codes
  rw [← List.take_append_drop 24 words1, List.all_append, w_t1, ← List.take_append_drop 24 (words1.drop 24), List.all_append, w_t2, ← List.take_append_drop 24 ((words1.drop 24).drop 24), List.all_append, w_t3, w_t4]
  rfl
set_option maxRecDepth 65536 in
theorem w_rest : rest_1_c.before args0 about1 = true := by decide +kernel
set_option maxRecDepth 65536 in
theorem w_case : (Jvm.Cond.and given_1 narrow_1).before args0 about1 = true := by decide +kernel
theorem w_applies : (headSpec (Jvm.Cond.code x code maxLocals ret :: tables_1) room_1).applies x e0.platform about1 = true :=
  (Spec.applies_iff w_frames).mpr ⟨w_running, w_runnable, w_alone, w_named, w_hears, w_ripe, w_room, w_tables⟩
theorem atStart : AtStart classFile x code maxLocals ret World_1 tables_1 room_1 Calls_1 rest_1 Pre_1 launch0 p0 e0 about1 theMethod args0 below0 :=
  ⟨lists_1, trivial, launch0.admits_env _ _ _, launch0.least_env, fairChoices_fair.cas, fairChoices_fair.clock, w_frames, w_args, w_heap, w_applies, trivial, w_rest, w_case⟩
end start1
theorem witness_1 : WitnessClaimed_1 := ⟨start1.p0, start1.e0, start1.about1, start1.theMethod, start1.args0, start1.below0, start1.atStart⟩
end Jvm.Pilot.@@N@@
